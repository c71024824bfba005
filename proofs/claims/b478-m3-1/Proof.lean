import JvmDerived
import JvmDerived.Pilot.@@N@@Statement
import JvmDerived.Pilot.@@N@@Code
set_option linter.unusedVariables false
set_option linter.unusedSimpArgs false

namespace Jvm.Own
open Sem ClassFile Op Lib Jvm.Stand Jvm.Free Jvm.LawKit Jvm.RoadKit
/-! the walk in continuation style: Wlk says that from here the run ends as wanted -/
abbrev JJ : Type := Bool × List String × List (String × Nat × Addr)
abbrev Cx : Type := Program × Launch × Env × State × MethodId × Array Value × List Frame × Method × Code
abbrev Cx.p (G : Cx) : Program := G.1
abbrev Cx.l (G : Cx) : Launch := G.2.1
abbrev Cx.e (G : Cx) : Env := G.2.2.1
abbrev Cx.s (G : Cx) : State := G.2.2.2.1
abbrev Cx.m (G : Cx) : MethodId := G.2.2.2.2.1
abbrev Cx.args (G : Cx) : Array Value := G.2.2.2.2.2.1
abbrev Cx.below (G : Cx) : List Frame := G.2.2.2.2.2.2.1
abbrev Cx.meth (G : Cx) : Method := G.2.2.2.2.2.2.2.1
abbrev Cx.c (G : Cx) : Code := G.2.2.2.2.2.2.2.2
/-- the texts loaded since the case's start; the entries known to be resolved -/
def Books (Z : State) (vm : Vm) (J : JJ) : Prop := J.1 = true → IB Z vm J.2.1 ∧ ∀ x ∈ J.2.2, Lit (Z.setVm vm) x.1 x.2.1 x.2.2
theorem Books.warm {Z s : State} {vm0 vm1 : Vm} {J : JJ} (B : Books Z vm0 J) (h : (s.setVm vm0).WarmedH vm1) : Books Z vm1 J := by
  intro hj
  refine ⟨?_, fun x hx => ?_⟩
  · obtain ⟨more, e, r⟩ := (B hj).1
    exact ⟨more, h.interned_eq.trans e, r⟩
  · exact Lit.stays (s := s) ((B hj).2 x hx) h.wide
def EndM (w : Bool) (s : State) (o : Outcome) (t : State) (L : List Loc) (k n : Nat) : Prop := ReturnedEndW s o t L k n ∧ (w = false → s.WarmedH t.vm)
def Pos (G : Cx) (R : Room) (Z : State) (own : String) (w : Bool) (J : JJ) (T : State) (h : Heap) (L : List Loc) (k n : Nat) : Prop :=
  ∃ (vm0 : Vm) (k0 : Nat), Stand G.p G.l G.e R (G.s.setVm vm0) G.m G.args G.below G.meth G.c T L k n ∧ T.heap = h ∧ G.s.Since vm0 k0 ∧ k0 ≤ h.size ∧ Z.Warmed39 vm0 ∧ vm0.findClass own = some G.m.cls ∧ (w = false → vm0 = G.s.vm) ∧ (w = true → Books Z vm0 J) ∧ Ext Z.heap h ∧ Fr Z.heap.size L
def Go (G : Cx) (R : Room) (Z : State) (w : Bool) (Q : Option Value → Heap → JJ → Prop) (U : State) : Prop :=
  ∃ (s₂ : State) (o : Outcome), Steps G.p.tables G.e G.below U s₂ ∧ s₂.status = .running ∧ Ended s₂ G.below o ∧
    ∃ (v : Option Value) (L : List Loc) (J' : JJ), o = .returned v ∧ (Q v s₂.heap J' ∧ Fr Z.heap.size L ∧ Ext Z.heap s₂.heap ∧ (w = true → Books Z s₂.vm J')) ∧ EndM w G.s o s₂ L R.cells R.slots
def Cok (G : Cx) (y : MethodName) (code : ByteArray) (ret : Option FieldType) : Prop :=
  G.p.tables.exec = Jvm.exec ∧ G.c.code = code ∧ G.meth.sig.returnType = ret ∧ G.meth.locks = false ∧ G.meth.name = y.name
def Wlk (G : Cx) (R : Room) (Z : State) (y : MethodName) (code : ByteArray) (ret : Option FieldType) (w : Bool) (J : JJ) (Q : Option Value → Heap → JJ → Prop) (h : Heap) (k n pc : Nat) (Ls : Array Slot) (st : List Value) : Prop :=
  Cok G y code ret → Ls.size = G.c.maxLocals → ∀ (T : State) (L : List Loc), Pos G R Z y.cls w J T h L k n → Go G R Z w Q (T.setTop (mkF G.m pc Ls st))
/-- what a body does: from the arguments and the heap h it returns as Q says -/
def Met (l : Launch) (Z : State) (y : MethodName) (code : ByteArray) (ml : Nat) (ret : Option FieldType) (w : Bool) (ws : List Jvm.Cond) (rm : Room) (as' : Array Value) (h : Heap) (J : JJ) (Q : Option Value → Heap → JJ → Prop) : Prop :=
  MetFree l y (head1 (Jvm.Cond.code y code ml ret :: ws) rm) (fun a U => a = as' ∧ Z.Warmed39 U.vm ∧ U.heap = h ∧ Ext Z.heap h ∧ (w = true → Books Z U.vm J)) (fun _ _ _ _ _ => True)
    (fun _ U o U' => ∃ (v : Option Value) (L : List Loc) (J' : JJ), o = .returned v ∧ (Q v U'.heap J' ∧ Fr Z.heap.size L ∧ Ext Z.heap U'.heap ∧ (w = true → Books Z U'.vm J')) ∧ EndM w U o U' L rm.cells rm.slots)
theorem Met.of_goes {l : Launch} {Z : State} {y : MethodName} {code : ByteArray} {ml : Nat} {ret : Option FieldType} {w : Bool} {ws : List Jvm.Cond} {rm : Room} {as' : Array Value} {h : Heap} {J : JJ} {Q : Option Value → Heap → JJ → Prop}
    (hx : plainFor y = true) {Ls : Array Slot} (hef : ∀ m, entryFrame m as' ml = mkF m 0 Ls []) (hsz : Ls.size = ml) (H : ∀ G : Cx, G.l = l → Wlk G rm Z y code ret w J Q h 0 0 0 Ls []) : Met l Z y code ml ret w ws rm as' h J Q := by
  refine MetFree.of_bodySF hx hisR ?_
  intro p e s m args below meth c s₁ Bd hml hP hK
  obtain ⟨rfl, hZ, hh, hE, hB⟩ := hP
  have X0 : Stand p l e rm s m args below meth c s₁ [] 0 0 := Stand.of_body Bd
  obtain ⟨s₂, o, hs, r⟩ := H (p, l, e, s, m, args, below, meth, c) rfl ⟨Bd.exec, Bd.bytes, Bd.returns, Bd.notSynchronized, (name_of_methodNamed Bd.named Bd.method).1⟩ (hsz.trans hml.symm) s₁ [] ⟨s.vm, 0, X0, by rw [← hh, Bd.state]; rfl, (State.WarmedH.refl s).since 0, Nat.zero_le _, hZ, findClass_of_methodNamed Bd.named, fun _ => rfl, hB, hE, Fr.nil _⟩
  exact ⟨s₂, o, castTop (hef m) hs, r⟩
section Walk
variable {G : Cx} {R : Room} {Z : State} {y : MethodName} {code : ByteArray} {ret : Option FieldType} {w : Bool} {J : JJ} {Q : Option Value → Heap → JJ → Prop} {h : Heap} {k n pc pc' : Nat} {Ls Ls' : Array Slot} {st st' : List Value} {a0 : Array Value}
theorem Wlk.plain (hz : Ls'.size = Ls.size) (hstep : Cok G y code ret → ∀ (T target : State), At T G.m G.c G.below → Steps G.p.tables G.e G.below (T.setTop (mkF G.m pc' Ls' st')) target → Steps G.p.tables G.e G.below (T.setTop (mkF G.m pc Ls st)) target) (H : Wlk G R Z y code ret w J Q h k n pc' Ls' st') : Wlk G R Z y code ret w J Q h k n pc Ls st := by
  intro hG hsz T L hP
  obtain ⟨s₂, o, hs, r⟩ := H hG (hz.trans hsz) T L hP
  obtain ⟨vm0, k0, X, -⟩ := hP
  exact ⟨s₂, o, hstep hG T _ X.here hs, r⟩
/-- a step that reads the tables or the heap and changes no cell -/
theorem Wlk.reads (hz : Ls'.size = Ls.size) (hstep : ∀ (vm0 : Vm) (T : State) (L : List Loc), Cok G y code ret → Ls.size = G.c.maxLocals → Stand G.p G.l G.e R (G.s.setVm vm0) G.m G.args G.below G.meth G.c T L k n → T.heap = h → Z.Warmed39 vm0 → vm0.findClass y.cls = some G.m.cls → Ext Z.heap h →
      ∃ T' : State, Stand G.p G.l G.e R (G.s.setVm vm0) G.m G.args G.below G.meth G.c T' L k n ∧ T'.heap = h ∧ ∀ target, Steps G.p.tables G.e G.below (T'.setTop (mkF G.m pc' Ls' st')) target → Steps G.p.tables G.e G.below (T.setTop (mkF G.m pc Ls st)) target)
    (H : Wlk G R Z y code ret w J Q h k n pc' Ls' st') : Wlk G R Z y code ret w J Q h k n pc Ls st := by
  intro hG hsz T L hP
  obtain ⟨vm0, k0, X, eT, hS, hk, hZ, hown, hw, hB, hE, hF⟩ := hP
  obtain ⟨T', X', e', st'⟩ := hstep vm0 T L hG hsz X eT hZ hown hE
  obtain ⟨s₂, o, hs, r⟩ := H hG (hz.trans hsz) T' L ⟨vm0, k0, X', e', hS, hk, hZ, hown, hw, hB, hE, hF⟩
  exact ⟨s₂, o, st' _ hs, r⟩
/-- a step that writes or makes -/
theorem Wlk.moves {k' n' : Nat} (hz : Ls'.size = Ls.size) {P : Heap → Prop} (hstep : ∀ (vm0 : Vm) (T : State) (L : List Loc), Cok G y code ret → Ls.size = G.c.maxLocals → Stand G.p G.l G.e R (G.s.setVm vm0) G.m G.args G.below G.meth G.c T L k n → T.heap = h → Z.Warmed39 vm0 → vm0.findClass y.cls = some G.m.cls → Ext Z.heap h → Fr Z.heap.size L →
      ∃ (T' : State) (h' : Heap) (L' : List Loc), Stand G.p G.l G.e R (G.s.setVm vm0) G.m G.args G.below G.meth G.c T' L' k' n' ∧ T'.heap = h' ∧ h.size ≤ h'.size ∧ Ext Z.heap h' ∧ Fr Z.heap.size L' ∧ P h' ∧ ∀ target, Steps G.p.tables G.e G.below (T'.setTop (mkF G.m pc' Ls' st')) target → Steps G.p.tables G.e G.below (T.setTop (mkF G.m pc Ls st)) target)
    (H : ∀ h', P h' → Wlk G R Z y code ret w J Q h' k' n' pc' Ls' st') : Wlk G R Z y code ret w J Q h k n pc Ls st := by
  intro hG hsz T L hP
  obtain ⟨vm0, k0, X, eT, hS, hk, hZ, hown, hw, hB, hE, hF⟩ := hP
  obtain ⟨T', h', L', X', e', hle, hE', hF', hP', st'⟩ := hstep vm0 T L hG hsz X eT hZ hown hE hF
  obtain ⟨s₂, o, hs, r⟩ := H h' hP' hG (hz.trans hsz) T' L' ⟨vm0, k0, X', e', hS, Nat.le_trans hk hle, hZ, hown, hw, hB, hE', hF'⟩
  exact ⟨s₂, o, st' _ hs, r⟩
theorem Wlk.more {k' n' : Nat} (hk' : k ≤ k') (hn' : n ≤ n') (H : Wlk G R Z y code ret w J Q h k' n' pc Ls st) : Wlk G R Z y code ret w J Q h k n pc Ls st := by
  intro hG hsz T L hP
  obtain ⟨vm0, k0, X, r⟩ := hP
  exact H hG hsz T L ⟨vm0, k0, X.more hk' hn', r⟩
theorem Wlk.ext0 (H : Ext Z.heap h → Wlk G R Z y code ret w J Q h k n pc Ls st) : Wlk G R Z y code ret w J Q h k n pc Ls st := fun hG hsz T L hP => H (by obtain ⟨vm0, k0, X, eT, hS, hk, hZ, hown, hw, hB, hE, hF⟩ := hP; exact hE) hG hsz T L hP
/-- the conditions of a branch, taken and not -/
def cT (cd : ClassFile.Cond) (x z : Int32) : Prop := match cd with
  | .eq => x = z
  | .ne => ¬ x = z
  | .lt => x < z
  | .ge => ¬ x < z
  | .gt => z < x
  | .le => ¬ z < x
def cF (cd : ClassFile.Cond) (x z : Int32) : Prop := match cd with
  | .eq => ¬ x = z
  | .ne => x = z
  | .lt => ¬ x < z
  | .ge => x < z
  | .gt => ¬ z < x
  | .le => z < x
theorem cT_holds {cd : ClassFile.Cond} {x z : Int32} (c : cT cd x z) : if_icmp.holds cd x z = true := by
  cases cd
  · exact (teq c).1
  · exact (feq c).2
  · exact (tlt c).1
  · exact (flt c).2.1
  · exact (tlt c).2.2.1
  · exact (flt c).2.2.2
theorem cF_holds {cd : ClassFile.Cond} {x z : Int32} (c : cF cd x z) : if_icmp.holds cd x z = false := by
  cases cd
  · exact (feq c).1
  · exact (teq c).2
  · exact (flt c).1
  · exact (tlt c).2.1
  · exact (flt c).2.2.1
  · exact (tlt c).2.2.2
theorem cTF (cd : ClassFile.Cond) (x z : Int32) : cT cd x z ∨ cF cd x z := by
  cases cd
  · exact Classical.em (x = z)
  · exact (Classical.em (x = z)).symm
  · exact Classical.em (x < z)
  · exact (Classical.em (x < z)).symm
  · exact Classical.em (z < x)
  · exact (Classical.em (z < x)).symm

theorem Wlk.aloadN {j : Fin 4} {v : Value} (hd : decode code pc = .ok (.aload_n j, 1)) (hl : Ls[j.val]? = some (.val v)) (hv : v.isRef = true) (hp : pc + 1 = pc') (H : Wlk G R Z y code ret w J Q h k n pc' Ls (v :: st)) : Wlk G R Z y code ret w J Q h k n pc Ls st := by
  subst hp
  exact Wlk.plain rfl (fun hG T t hA q => XS.aloadN hA hG.1 rfl (hb hG.2.1 hd) hl hv q) H
theorem Wlk.aload {j : Nat} {v : Value} (hd : decode code pc = .ok (.aload j, 2)) (hl : Ls[j]? = some (.val v)) (hv : v.isRef = true) (hp : pc + 2 = pc') (H : Wlk G R Z y code ret w J Q h k n pc' Ls (v :: st)) : Wlk G R Z y code ret w J Q h k n pc Ls st := by
  subst hp
  exact Wlk.plain rfl (fun hG T t hA q => XS.aload hA hG.1 rfl (hb hG.2.1 hd) hl hv q) H
theorem Wlk.iloadN {j : Fin 4} {v : Int32} (hd : decode code pc = .ok (.iload_n j, 1)) (hl : Ls[j.val]? = some (.val (.int v))) (hp : pc + 1 = pc') (H : Wlk G R Z y code ret w J Q h k n pc' Ls (.int v :: st)) : Wlk G R Z y code ret w J Q h k n pc Ls st := by
  subst hp
  exact Wlk.plain rfl (fun hG T t hA q => XS.iloadN hA hG.1 rfl (hb hG.2.1 hd) hl q) H
theorem Wlk.iload {j : Nat} {v : Int32} (hd : decode code pc = .ok (.iload j, 2)) (hl : Ls[j]? = some (.val (.int v))) (hp : pc + 2 = pc') (H : Wlk G R Z y code ret w J Q h k n pc' Ls (.int v :: st)) : Wlk G R Z y code ret w J Q h k n pc Ls st := by
  subst hp
  exact Wlk.plain rfl (fun hG T t hA q => XS.iload hA hG.1 rfl (hb hG.2.1 hd) hl q) H
theorem Wlk.lloadN {j : Fin 4} {v : Int64} (hd : decode code pc = .ok (.lload_n j, 1)) (hl : Ls[j.val]? = some (.val (.long v))) (hp : pc + 1 = pc') (H : Wlk G R Z y code ret w J Q h k n pc' Ls (.long v :: st)) : Wlk G R Z y code ret w J Q h k n pc Ls st := by
  subst hp
  exact Wlk.plain rfl (fun hG T t hA q => XT.lloadN hA hG.1 rfl (hb hG.2.1 hd) hl q) H
theorem Wlk.lload {j : Nat} {v : Int64} (hd : decode code pc = .ok (.lload j, 2)) (hl : Ls[j]? = some (.val (.long v))) (hp : pc + 2 = pc') (H : Wlk G R Z y code ret w J Q h k n pc' Ls (.long v :: st)) : Wlk G R Z y code ret w J Q h k n pc Ls st := by
  subst hp
  exact Wlk.plain rfl (fun hG T t hA q => XT.lload hA hG.1 rfl (hb hG.2.1 hd) hl q) H
theorem Wlk.iconst {i : Int} {v : Int32} (hd : decode code pc = .ok (.iconst i, 1)) (hv : Int32.ofInt i = v) (hp : pc + 1 = pc') (H : Wlk G R Z y code ret w J Q h k n pc' Ls (.int v :: st)) : Wlk G R Z y code ret w J Q h k n pc Ls st := by
  subst hp
  exact Wlk.plain rfl (fun hG T t hA q => XS.iconst hA hG.1 rfl (hb hG.2.1 hd) (by rw [hv]; exact q)) H
theorem Wlk.bipush {i : Int} {v : Int32} (hd : decode code pc = .ok (.bipush i, 2)) (hv : (Int8.ofInt i).toInt32 = v) (hp : pc + 2 = pc') (H : Wlk G R Z y code ret w J Q h k n pc' Ls (.int v :: st)) : Wlk G R Z y code ret w J Q h k n pc Ls st := by
  subst hp
  exact Wlk.plain rfl (fun hG T t hA q => XS.bipush hA hG.1 rfl (hb hG.2.1 hd) (by rw [hv]; exact q)) H
theorem Wlk.sipush {i : Int} {v : Int32} (hd : decode code pc = .ok (.sipush i, 3)) (hv : (Int16.ofInt i).toInt32 = v) (hp : pc + 3 = pc') (H : Wlk G R Z y code ret w J Q h k n pc' Ls (.int v :: st)) : Wlk G R Z y code ret w J Q h k n pc Ls st := by
  subst hp
  exact Wlk.plain rfl (fun hG T t hA q => XS.sipush hA hG.1 rfl (hb hG.2.1 hd) (by rw [hv]; exact q)) H
theorem Wlk.lconst {j : Fin 2} {v : Int64} (hd : decode code pc = .ok (.lconst j, 1)) (hv : Int64.ofNat j = v) (hp : pc + 1 = pc') (H : Wlk G R Z y code ret w J Q h k n pc' Ls (.long v :: st)) : Wlk G R Z y code ret w J Q h k n pc Ls st := by
  subst hp
  exact Wlk.plain rfl (fun hG T t hA q => XT.lconst hA hG.1 rfl (hb hG.2.1 hd) (by rw [hv]; exact q)) H
theorem Wlk.aconstNull  (hd : decode code pc = .ok (.aconst_null, 1)) (hp : pc + 1 = pc') (H : Wlk G R Z y code ret w J Q h k n pc' Ls (.null :: st)) : Wlk G R Z y code ret w J Q h k n pc Ls st := by
  subst hp
  exact Wlk.plain rfl (fun hG T t hA q => XS.aconstNull hA hG.1 rfl (hb hG.2.1 hd) q) H
theorem Wlk.iadd {x z : Int32} (hd : decode code pc = .ok (.iadd, 1)) (hp : pc + 1 = pc') (H : Wlk G R Z y code ret w J Q h k n pc' Ls (.int (x + z) :: st)) : Wlk G R Z y code ret w J Q h k n pc Ls (.int z :: .int x :: st) := by
  subst hp
  exact Wlk.plain rfl (fun hG T t hA q => XS.iadd hA hG.1 rfl (hb hG.2.1 hd) rfl q) H
theorem Wlk.isub {x z : Int32} (hd : decode code pc = .ok (.isub, 1)) (hp : pc + 1 = pc') (H : Wlk G R Z y code ret w J Q h k n pc' Ls (.int (x - z) :: st)) : Wlk G R Z y code ret w J Q h k n pc Ls (.int z :: .int x :: st) := by
  subst hp
  exact Wlk.plain rfl (fun hG T t hA q => XS.isub hA hG.1 rfl (hb hG.2.1 hd) rfl q) H
theorem Wlk.imul {x z : Int32} (hd : decode code pc = .ok (.imul, 1)) (hp : pc + 1 = pc') (H : Wlk G R Z y code ret w J Q h k n pc' Ls (.int (x * z) :: st)) : Wlk G R Z y code ret w J Q h k n pc Ls (.int z :: .int x :: st) := by
  subst hp
  exact Wlk.plain rfl (fun hG T t hA q => XS.imul hA hG.1 rfl (hb hG.2.1 hd) rfl q) H
theorem Wlk.iand {x z : Int32} (hd : decode code pc = .ok (.iand, 1)) (hp : pc + 1 = pc') (H : Wlk G R Z y code ret w J Q h k n pc' Ls (.int (x &&& z) :: st)) : Wlk G R Z y code ret w J Q h k n pc Ls (.int z :: .int x :: st) := by
  subst hp
  exact Wlk.plain rfl (fun hG T t hA q => XS.iand hA hG.1 rfl (hb hG.2.1 hd) rfl q) H
theorem Wlk.ior {x z : Int32} (hd : decode code pc = .ok (.ior, 1)) (hp : pc + 1 = pc') (H : Wlk G R Z y code ret w J Q h k n pc' Ls (.int (x ||| z) :: st)) : Wlk G R Z y code ret w J Q h k n pc Ls (.int z :: .int x :: st) := by
  subst hp
  exact Wlk.plain rfl (fun hG T t hA q => XT.ior hA hG.1 rfl (hb hG.2.1 hd) rfl q) H
theorem Wlk.ixor {x z : Int32} (hd : decode code pc = .ok (.ixor, 1)) (hp : pc + 1 = pc') (H : Wlk G R Z y code ret w J Q h k n pc' Ls (.int (x ^^^ z) :: st)) : Wlk G R Z y code ret w J Q h k n pc Ls (.int z :: .int x :: st) := by
  subst hp
  exact Wlk.plain rfl (fun hG T t hA q => XT.ixor hA hG.1 rfl (hb hG.2.1 hd) rfl q) H
theorem Wlk.irem {x z : Int32} (hd : decode code pc = .ok (.irem, 1)) (hne : z ≠ 0) (hp : pc + 1 = pc') (H : Wlk G R Z y code ret w J Q h k n pc' Ls (.int (x % z) :: st)) : Wlk G R Z y code ret w J Q h k n pc Ls (.int z :: .int x :: st) := by
  subst hp
  exact Wlk.reads rfl (fun vm0 T L hG hsz X eT hZ hown hE => ⟨T, X, eT, fun t q => iremM (g := mkF G.m pc Ls (.int z :: .int x :: st)) X hG.1 rfl (hb hG.2.1 hd) rfl hne q⟩) H
theorem Wlk.idiv {x z : Int32} (hd : decode code pc = .ok (.idiv, 1)) (hne : z ≠ 0) (hp : pc + 1 = pc') (H : Wlk G R Z y code ret w J Q h k n pc' Ls (.int (x / z) :: st)) : Wlk G R Z y code ret w J Q h k n pc Ls (.int z :: .int x :: st) := by
  subst hp
  exact Wlk.plain rfl (fun hG T t hA q => XS.idiv hA hG.1 rfl (hb hG.2.1 hd) rfl hne q) H
theorem Wlk.ishl {x z : Int32} (hd : decode code pc = .ok (.ishl, 1)) (hp : pc + 1 = pc') (H : Wlk G R Z y code ret w J Q h k n pc' Ls (.int (x <<< (z &&& 31)) :: st)) : Wlk G R Z y code ret w J Q h k n pc Ls (.int z :: .int x :: st) := by
  subst hp
  exact Wlk.plain rfl (fun hG T t hA q => XT.ishl hA hG.1 rfl (hb hG.2.1 hd) rfl q) H
theorem Wlk.ishr {x z : Int32} (hd : decode code pc = .ok (.ishr, 1)) (hp : pc + 1 = pc') (H : Wlk G R Z y code ret w J Q h k n pc' Ls (.int (x >>> (z &&& 31)) :: st)) : Wlk G R Z y code ret w J Q h k n pc Ls (.int z :: .int x :: st) := by
  subst hp
  exact Wlk.plain rfl (fun hG T t hA q => XT.ishr hA hG.1 rfl (hb hG.2.1 hd) rfl q) H
theorem Wlk.iushr {x z : Int32} (hd : decode code pc = .ok (.iushr, 1)) (hp : pc + 1 = pc') (H : Wlk G R Z y code ret w J Q h k n pc' Ls (.int ((x.toUInt32 >>> (z &&& 31).toUInt32).toInt32) :: st)) : Wlk G R Z y code ret w J Q h k n pc Ls (.int z :: .int x :: st) := by
  subst hp
  exact Wlk.plain rfl (fun hG T t hA q => XT.iushr hA hG.1 rfl (hb hG.2.1 hd) rfl q) H
theorem Wlk.ladd {x z : Int64} (hd : decode code pc = .ok (.ladd, 1)) (hp : pc + 1 = pc') (H : Wlk G R Z y code ret w J Q h k n pc' Ls (.long (x + z) :: st)) : Wlk G R Z y code ret w J Q h k n pc Ls (.long z :: .long x :: st) := by
  subst hp
  exact Wlk.plain rfl (fun hG T t hA q => XT.ladd hA hG.1 rfl (hb hG.2.1 hd) rfl q) H
theorem Wlk.lsub {x z : Int64} (hd : decode code pc = .ok (.lsub, 1)) (hp : pc + 1 = pc') (H : Wlk G R Z y code ret w J Q h k n pc' Ls (.long (x - z) :: st)) : Wlk G R Z y code ret w J Q h k n pc Ls (.long z :: .long x :: st) := by
  subst hp
  exact Wlk.plain rfl (fun hG T t hA q => XT.lsub hA hG.1 rfl (hb hG.2.1 hd) rfl q) H
theorem Wlk.lmul {x z : Int64} (hd : decode code pc = .ok (.lmul, 1)) (hp : pc + 1 = pc') (H : Wlk G R Z y code ret w J Q h k n pc' Ls (.long (x * z) :: st)) : Wlk G R Z y code ret w J Q h k n pc Ls (.long z :: .long x :: st) := by
  subst hp
  exact Wlk.plain rfl (fun hG T t hA q => XT.lmul hA hG.1 rfl (hb hG.2.1 hd) rfl q) H
theorem Wlk.land {x z : Int64} (hd : decode code pc = .ok (.land, 1)) (hp : pc + 1 = pc') (H : Wlk G R Z y code ret w J Q h k n pc' Ls (.long (x &&& z) :: st)) : Wlk G R Z y code ret w J Q h k n pc Ls (.long z :: .long x :: st) := by
  subst hp
  exact Wlk.plain rfl (fun hG T t hA q => XT.land hA hG.1 rfl (hb hG.2.1 hd) rfl q) H
theorem Wlk.lor {x z : Int64} (hd : decode code pc = .ok (.lor, 1)) (hp : pc + 1 = pc') (H : Wlk G R Z y code ret w J Q h k n pc' Ls (.long (x ||| z) :: st)) : Wlk G R Z y code ret w J Q h k n pc Ls (.long z :: .long x :: st) := by
  subst hp
  exact Wlk.plain rfl (fun hG T t hA q => XT.lor hA hG.1 rfl (hb hG.2.1 hd) rfl q) H
theorem Wlk.lxor {x z : Int64} (hd : decode code pc = .ok (.lxor, 1)) (hp : pc + 1 = pc') (H : Wlk G R Z y code ret w J Q h k n pc' Ls (.long (x ^^^ z) :: st)) : Wlk G R Z y code ret w J Q h k n pc Ls (.long z :: .long x :: st) := by
  subst hp
  exact Wlk.plain rfl (fun hG T t hA q => XT.lxor hA hG.1 rfl (hb hG.2.1 hd) rfl q) H
theorem Wlk.ineg {x : Int32} (hd : decode code pc = .ok (.ineg, 1)) (hp : pc + 1 = pc') (H : Wlk G R Z y code ret w J Q h k n pc' Ls (.int (-x) :: st)) : Wlk G R Z y code ret w J Q h k n pc Ls (.int x :: st) := by
  subst hp
  exact Wlk.plain rfl (fun hG T t hA q => XS.ineg hA hG.1 rfl (hb hG.2.1 hd) rfl q) H
theorem Wlk.lushr {x : Int64} {z : Int32} (hd : decode code pc = .ok (.lushr, 1)) (hp : pc + 1 = pc') (H : Wlk G R Z y code ret w J Q h k n pc' Ls (.long (XT.ushrL x z) :: st)) : Wlk G R Z y code ret w J Q h k n pc Ls (.int z :: .long x :: st) := by
  subst hp
  exact Wlk.plain rfl (fun hG T t hA q => XT.lushr hA hG.1 rfl (hb hG.2.1 hd) rfl q) H
theorem Wlk.i2l {x : Int32} (hd : decode code pc = .ok (.i2l, 1)) (hp : pc + 1 = pc') (H : Wlk G R Z y code ret w J Q h k n pc' Ls (.long x.toInt64 :: st)) : Wlk G R Z y code ret w J Q h k n pc Ls (.int x :: st) := by
  subst hp
  exact Wlk.plain rfl (fun hG T t hA q => XT.i2l hA hG.1 rfl (hb hG.2.1 hd) rfl q) H
theorem Wlk.l2i {x : Int64} (hd : decode code pc = .ok (.l2i, 1)) (hp : pc + 1 = pc') (H : Wlk G R Z y code ret w J Q h k n pc' Ls (.int x.toInt32 :: st)) : Wlk G R Z y code ret w J Q h k n pc Ls (.long x :: st) := by
  subst hp
  exact Wlk.plain rfl (fun hG T t hA q => XT.l2i hA hG.1 rfl (hb hG.2.1 hd) rfl q) H
theorem Wlk.i2c {x : Int32} (hd : decode code pc = .ok (.i2c, 1)) (hp : pc + 1 = pc') (H : Wlk G R Z y code ret w J Q h k n pc' Ls (.int x.toUInt32.toUInt16.toUInt32.toInt32 :: st)) : Wlk G R Z y code ret w J Q h k n pc Ls (.int x :: st) := by
  subst hp
  exact Wlk.plain rfl (fun hG T t hA q => XT.i2c hA hG.1 rfl (hb hG.2.1 hd) rfl q) H
theorem Wlk.i2b {x : Int32} (hd : decode code pc = .ok (.i2b, 1)) (hp : pc + 1 = pc') (H : Wlk G R Z y code ret w J Q h k n pc' Ls (.int x.toInt8.toInt32 :: st)) : Wlk G R Z y code ret w J Q h k n pc Ls (.int x :: st) := by
  subst hp
  exact Wlk.plain rfl (fun hG T t hA q => XT.i2b hA hG.1 rfl (hb hG.2.1 hd) rfl q) H
theorem Wlk.i2s {x : Int32} (hd : decode code pc = .ok (.i2s, 1)) (hp : pc + 1 = pc') (H : Wlk G R Z y code ret w J Q h k n pc' Ls (.int x.toInt16.toInt32 :: st)) : Wlk G R Z y code ret w J Q h k n pc Ls (.int x :: st) := by
  subst hp
  exact Wlk.plain rfl (fun hG T t hA q => XT.i2s hA hG.1 rfl (hb hG.2.1 hd) rfl q) H
theorem Wlk.lcmp {x z : Int64} (hd : decode code pc = .ok (.lcmp, 1)) (hp : pc + 1 = pc') (H : Wlk G R Z y code ret w J Q h k n pc' Ls (.int (lcmpW x z) :: st)) : Wlk G R Z y code ret w J Q h k n pc Ls (.long z :: .long x :: st) := by
  subst hp
  exact Wlk.plain rfl (fun hG T t hA q => XT.lcmp hA hG.1 rfl (hb hG.2.1 hd) rfl q) H
theorem Wlk.dup {x : Value} (hd : decode code pc = .ok (.dup, 1)) (hc : x.category = 1) (hp : pc + 1 = pc') (H : Wlk G R Z y code ret w J Q h k n pc' Ls (x :: x :: st)) : Wlk G R Z y code ret w J Q h k n pc Ls (x :: st) := by
  subst hp
  exact Wlk.plain rfl (fun hG T t hA q => XS.dup hA hG.1 rfl (hb hG.2.1 hd) rfl hc q) H
theorem Wlk.pop {x : Value} (hd : decode code pc = .ok (.pop, 1)) (hc : x.category = 1) (hp : pc + 1 = pc') (H : Wlk G R Z y code ret w J Q h k n pc' Ls st) : Wlk G R Z y code ret w J Q h k n pc Ls (x :: st) := by
  subst hp
  exact Wlk.plain rfl (fun hG T t hA q => XT.pop hA hG.1 rfl (hb hG.2.1 hd) rfl hc q) H
theorem Wlk.dupX1 {x z : Value} (hd : decode code pc = .ok (.dup_x1, 1)) (hc : x.category = 1) (hc' : z.category = 1) (hp : pc + 1 = pc') (H : Wlk G R Z y code ret w J Q h k n pc' Ls (x :: z :: x :: st)) : Wlk G R Z y code ret w J Q h k n pc Ls (x :: z :: st) := by
  subst hp
  exact Wlk.plain rfl (fun hG T t hA q => XT.dupX1 hA hG.1 rfl (hb hG.2.1 hd) rfl hc hc' q) H
theorem Wlk.dup2 {x z : Value} (hd : decode code pc = .ok (.dup2, 1)) (hc : x.category = 1) (hc' : z.category = 1) (hp : pc + 1 = pc') (H : Wlk G R Z y code ret w J Q h k n pc' Ls (x :: z :: x :: z :: st)) : Wlk G R Z y code ret w J Q h k n pc Ls (x :: z :: st) := by
  subst hp
  exact Wlk.plain rfl (fun hG T t hA q => XT.dup2 hA hG.1 rfl (hb hG.2.1 hd) rfl hc hc' q) H
theorem Wlk.istoreN {j : Fin 4} {x : Int32} (hd : decode code pc = .ok (.istore_n j, 1)) (hl : storeLocals Ls j.val (.int x) = some Ls') (hz : Ls'.size = Ls.size) (hp : pc + 1 = pc') (H : Wlk G R Z y code ret w J Q h k n pc' Ls' st) : Wlk G R Z y code ret w J Q h k n pc Ls (.int x :: st) := by
  subst hp
  exact Wlk.plain hz (fun hG T t hA q => XS.istoreN hA hG.1 rfl (hb hG.2.1 hd) rfl hl q) H
theorem Wlk.istore {j : Nat} {x : Int32} (hd : decode code pc = .ok (.istore j, 2)) (hl : storeLocals Ls j (.int x) = some Ls') (hz : Ls'.size = Ls.size) (hp : pc + 2 = pc') (H : Wlk G R Z y code ret w J Q h k n pc' Ls' st) : Wlk G R Z y code ret w J Q h k n pc Ls (.int x :: st) := by
  subst hp
  exact Wlk.plain hz (fun hG T t hA q => XS.istore hA hG.1 rfl (hb hG.2.1 hd) rfl hl q) H
theorem Wlk.astoreN {j : Fin 4} {x : Value} (hd : decode code pc = .ok (.astore_n j, 1)) (hv : x.isRef = true) (hl : storeLocals Ls j.val x = some Ls') (hz : Ls'.size = Ls.size) (hp : pc + 1 = pc') (H : Wlk G R Z y code ret w J Q h k n pc' Ls' st) : Wlk G R Z y code ret w J Q h k n pc Ls (x :: st) := by
  subst hp
  exact Wlk.plain hz (fun hG T t hA q => XS.astoreN hA hG.1 rfl (hb hG.2.1 hd) rfl hv hl q) H
theorem Wlk.astore {j : Nat} {x : Value} (hd : decode code pc = .ok (.astore j, 2)) (hv : x.isRef = true) (hl : storeLocals Ls j x = some Ls') (hz : Ls'.size = Ls.size) (hp : pc + 2 = pc') (H : Wlk G R Z y code ret w J Q h k n pc' Ls' st) : Wlk G R Z y code ret w J Q h k n pc Ls (x :: st) := by
  subst hp
  exact Wlk.plain hz (fun hG T t hA q => XS.astore hA hG.1 rfl (hb hG.2.1 hd) rfl hv hl q) H
theorem Wlk.lstoreN {j : Fin 4} {x : Int64} (hd : decode code pc = .ok (.lstore_n j, 1)) (hl : storeLocals Ls j.val (.long x) = some Ls') (hz : Ls'.size = Ls.size) (hp : pc + 1 = pc') (H : Wlk G R Z y code ret w J Q h k n pc' Ls' st) : Wlk G R Z y code ret w J Q h k n pc Ls (.long x :: st) := by
  subst hp
  exact Wlk.plain hz (fun hG T t hA q => XT.lstoreN hA hG.1 rfl (hb hG.2.1 hd) rfl hl q) H
theorem Wlk.lstore {j : Nat} {x : Int64} (hd : decode code pc = .ok (.lstore j, 2)) (hl : storeLocals Ls j (.long x) = some Ls') (hz : Ls'.size = Ls.size) (hp : pc + 2 = pc') (H : Wlk G R Z y code ret w J Q h k n pc' Ls' st) : Wlk G R Z y code ret w J Q h k n pc Ls (.long x :: st) := by
  subst hp
  exact Wlk.plain hz (fun hG T t hA q => XT.lstore hA hG.1 rfl (hb hG.2.1 hd) rfl hl q) H
theorem Wlk.iinc {j : Nat} {cst : Int} {x v : Int32} (hd : decode code pc = .ok (.iinc j cst, 3)) (hv : Int32.ofInt cst = v) (hl : Ls[j]? = some (.val (.int x))) (hs : storeLocals Ls j (.int (x + v)) = some Ls') (hz : Ls'.size = Ls.size) (hp : pc + 3 = pc') (H : Wlk G R Z y code ret w J Q h k n pc' Ls' st) : Wlk G R Z y code ret w J Q h k n pc Ls st := by
  subst hp
  exact Wlk.plain hz (fun hG T t hA q => XT.iincV hA hG.1 rfl v (hb hG.2.1 hd) hv hl hs q) H
theorem Wlk.goto {o : Int} (hd : decode code pc = .ok (.goto o, 3)) (ho : 0 ≤ (pc : Int) + o) (hp : ((pc : Int) + o).toNat = pc') (H : Wlk G R Z y code ret w J Q h k n pc' Ls st) : Wlk G R Z y code ret w J Q h k n pc Ls st :=
  Wlk.plain rfl (fun hG T t hA q => XS.goto hA hG.1 rfl (pc0 := pc) rfl (hb hG.2.1 hd) ho hp q) H
theorem Wlk.ifT {cd : ClassFile.Cond} {o : Int} {x : Int32} (hd : decode code pc = .ok (.ifCond cd o, 3)) (ho : 0 ≤ (pc : Int) + o) (hp : ((pc : Int) + o).toNat = pc') (c : cT cd x 0) (H : Wlk G R Z y code ret w J Q h k n pc' Ls st) : Wlk G R Z y code ret w J Q h k n pc Ls (.int x :: st) :=
  Wlk.plain rfl (fun hG T t hA q => XS.ifYes hA hG.1 rfl (pc0 := pc) rfl (hb hG.2.1 hd) rfl ((if0 _ _).trans (cT_holds c)) ho hp q) H
theorem Wlk.ifF {cd : ClassFile.Cond} {o : Int} {x : Int32} (hd : decode code pc = .ok (.ifCond cd o, 3)) (c : cF cd x 0) (hp : pc + 3 = pc') (H : Wlk G R Z y code ret w J Q h k n pc' Ls st) : Wlk G R Z y code ret w J Q h k n pc Ls (.int x :: st) := by
  subst hp
  exact Wlk.plain rfl (fun hG T t hA q => XS.ifNo hA hG.1 rfl (hb hG.2.1 hd) rfl ((if0 _ _).trans (cF_holds c)) q) H
theorem Wlk.icT {cd : ClassFile.Cond} {o : Int} {x z : Int32} (hd : decode code pc = .ok (.if_icmp cd o, 3)) (ho : 0 ≤ (pc : Int) + o) (hp : ((pc : Int) + o).toNat = pc') (c : cT cd x z) (H : Wlk G R Z y code ret w J Q h k n pc' Ls st) : Wlk G R Z y code ret w J Q h k n pc Ls (.int z :: .int x :: st) :=
  Wlk.plain rfl (fun hG T t hA q => XS.icmpYes hA hG.1 rfl (pc0 := pc) rfl (hb hG.2.1 hd) rfl (cT_holds c) ho hp q) H
theorem Wlk.icF {cd : ClassFile.Cond} {o : Int} {x z : Int32} (hd : decode code pc = .ok (.if_icmp cd o, 3)) (c : cF cd x z) (hp : pc + 3 = pc') (H : Wlk G R Z y code ret w J Q h k n pc' Ls st) : Wlk G R Z y code ret w J Q h k n pc Ls (.int z :: .int x :: st) := by
  subst hp
  exact Wlk.plain rfl (fun hG T t hA q => XS.icmpNo hA hG.1 rfl (hb hG.2.1 hd) rfl (cF_holds c) q) H
theorem Wlk.if_ {cd : ClassFile.Cond} {o : Int} {x : Int32} {pcT pcF : Nat} (hd : decode code pc = .ok (.ifCond cd o, 3)) (ho : 0 ≤ (pc : Int) + o) (hT : ((pc : Int) + o).toNat = pcT) (hF : pc + 3 = pcF) (H1 : cT cd x 0 → Wlk G R Z y code ret w J Q h k n pcT Ls st) (H2 : cF cd x 0 → Wlk G R Z y code ret w J Q h k n pcF Ls st) : Wlk G R Z y code ret w J Q h k n pc Ls (.int x :: st) :=
  (cTF cd x 0).elim (fun c => Wlk.ifT hd ho hT c (H1 c)) (fun c => Wlk.ifF hd c hF (H2 c))
theorem Wlk.ic_ {cd : ClassFile.Cond} {o : Int} {x z : Int32} {pcT pcF : Nat} (hd : decode code pc = .ok (.if_icmp cd o, 3)) (ho : 0 ≤ (pc : Int) + o) (hT : ((pc : Int) + o).toNat = pcT) (hF : pc + 3 = pcF) (H1 : cT cd x z → Wlk G R Z y code ret w J Q h k n pcT Ls st) (H2 : cF cd x z → Wlk G R Z y code ret w J Q h k n pcF Ls st) : Wlk G R Z y code ret w J Q h k n pc Ls (.int z :: .int x :: st) :=
  (cTF cd x z).elim (fun c => Wlk.icT hd ho hT c (H1 c)) (fun c => Wlk.icF hd c hF (H2 c))
theorem Wlk.ifnullT {o : Int} (hd : decode code pc = .ok (.ifnull o, 3)) (ho : 0 ≤ (pc : Int) + o) (hp : ((pc : Int) + o).toNat = pc') (H : Wlk G R Z y code ret w J Q h k n pc' Ls st) : Wlk G R Z y code ret w J Q h k n pc Ls (.null :: st) :=
  Wlk.plain rfl (fun hG T t hA q => XS.ifnullYes hA hG.1 rfl (pc0 := pc) rfl (hb hG.2.1 hd) rfl ho hp q) H
theorem Wlk.ifnullF {o : Int} {b : Addr} (hd : decode code pc = .ok (.ifnull o, 3)) (hp : pc + 3 = pc') (H : Wlk G R Z y code ret w J Q h k n pc' Ls st) : Wlk G R Z y code ret w J Q h k n pc Ls (.ref b :: st) := by
  subst hp
  exact Wlk.plain rfl (fun hG T t hA q => XS.ifnullNo hA hG.1 rfl (hb hG.2.1 hd) rfl q) H
theorem Wlk.ifnonnullT {o : Int} {b : Addr} (hd : decode code pc = .ok (.ifnonnull o, 3)) (ho : 0 ≤ (pc : Int) + o) (hp : ((pc : Int) + o).toNat = pc') (H : Wlk G R Z y code ret w J Q h k n pc' Ls st) : Wlk G R Z y code ret w J Q h k n pc Ls (.ref b :: st) :=
  Wlk.plain rfl (fun hG T t hA q => XT.ifnonnullYes hA hG.1 rfl (pc0 := pc) rfl (hb hG.2.1 hd) rfl ho hp q) H
theorem Wlk.ifnonnullF {o : Int} (hd : decode code pc = .ok (.ifnonnull o, 3)) (hp : pc + 3 = pc') (H : Wlk G R Z y code ret w J Q h k n pc' Ls st) : Wlk G R Z y code ret w J Q h k n pc Ls (.null :: st) := by
  subst hp
  exact Wlk.plain rfl (fun hG T t hA q => XT.ifnonnullNo hA hG.1 rfl (hb hG.2.1 hd) rfl q) H
theorem Wlk.acmp {cd : ACond} {o : Int} {x z : Value} {same : Bool} (hd : decode code pc = .ok (.if_acmp cd o, 3)) (h1 : x.isRef = true) (h2 : z.isRef = true) (hq : decide (x = z) = same) (ho : 0 ≤ (pc : Int) + o) (hp : pc' = if acV cd same = true then ((pc : Int) + o).toNat else pc + 3) (H : Wlk G R Z y code ret w J Q h k n pc' Ls st) : Wlk G R Z y code ret w J Q h k n pc Ls (z :: x :: st) :=
  Wlk.reads rfl (fun vm0 T L hG hsz X eT hZ hown hE => ⟨T, X, eT, fun t q => Jvm.RoadKit.acmp (g := mkF G.m pc Ls (z :: x :: st)) X hG.1 rfl h1 h2 (pc0 := pc) rfl (hb hG.2.1 hd) rfl hq ho hp q⟩) H
theorem Wlk.ldcI {index : Nat} {v : Int32} (hd : decode code pc = .ok (.ldc index, 2)) (wd : (Cond.constant y.cls index v).before a0 Z = true) (hp : pc + 2 = pc') (H : Wlk G R Z y code ret w J Q h k n pc' Ls (.int v :: st)) : Wlk G R Z y code ret w J Q h k n pc Ls st := by
  subst hp
  exact Wlk.reads rfl (fun vm0 T L hG hsz X eT hZ hown hE => ⟨T, X, eT, fun t q => X.ldcI hG.1 hown (mvT hZ wd) (g := mkF G.m pc Ls st) rfl (hb hG.2.1 hd) q⟩) H
theorem Wlk.ldcWI {index : Nat} {v : Int32} (hd : decode code pc = .ok (.ldc_w index, 3)) (wd : (Cond.constant y.cls index v).before a0 Z = true) (hp : pc + 3 = pc') (H : Wlk G R Z y code ret w J Q h k n pc' Ls (.int v :: st)) : Wlk G R Z y code ret w J Q h k n pc Ls st := by
  subst hp
  exact Wlk.reads rfl (fun vm0 T L hG hsz X eT hZ hown hE => ⟨T, X, eT, fun t q => X.ldcWI hG.1 hown (mvT hZ wd) (g := mkF G.m pc Ls st) rfl (hb hG.2.1 hd) q⟩) H
theorem Wlk.ldc2J {index : Nat} {v : Int64} (hd : decode code pc = .ok (.ldc2_w index, 3)) (wd : (Cond.constantLong y.cls index v).before a0 Z = true) (hp : pc + 3 = pc') (H : Wlk G R Z y code ret w J Q h k n pc' Ls (.long v :: st)) : Wlk G R Z y code ret w J Q h k n pc Ls st := by
  subst hp
  exact Wlk.reads rfl (fun vm0 T L hG hsz X eT hZ hown hE => ⟨T, X, eT, fun t q => X.ldc2J hG.1 hown (mvT hZ wd) (g := mkF G.m pc Ls st) rfl (hb hG.2.1 hd) q⟩) H
theorem Wlk.getF {index : Nat} {R0 O nm d : String} {a : Addr} {v : Value} (hd : decode code pc = .ok (.getfield index, 3)) (wl : (Cond.fieldLink y.cls index R0 nm d).before a0 Z = true) (via : Via Z R0 O nm d) (F : Fld Z h a O nm d v) (hp : pc + 3 = pc') (H : Wlk G R Z y code ret w J Q h k n pc' Ls (v :: st)) : Wlk G R Z y code ret w J Q h k n pc Ls (.ref a :: st) := by
  subst hp
  exact Wlk.reads rfl (fun vm0 T L hG hsz X eT hZ hown hE => Jvm.RoadKit.getF X hG.1 hZ hown (host := "") (Or.inl wl) via eT F (g := mkF G.m pc Ls (.ref a :: st)) rfl rfl (hb hG.2.1 hd)) H
theorem Wlk.getS {index : Nat} {R0 O nm d : String} {v : Value} (hd : decode code pc = .ok (.getstatic index, 3)) (wl : (Cond.fieldLink y.cls index R0 nm d).before a0 Z = true) (via : Via Z R0 O nm d) (F : Sta Z Z.heap O nm d v) (hp : pc + 3 = pc') (H : Wlk G R Z y code ret w J Q h k n pc' Ls (v :: st)) : Wlk G R Z y code ret w J Q h k n pc Ls st := by
  subst hp
  exact Wlk.reads rfl (fun vm0 T L hG hsz X eT hZ hown hE => Jvm.RoadKit.getS (host := "") X hG.1 hZ hown wl via eT (F.ext hE) (g := mkF G.m pc Ls st) rfl (hb hG.2.1 hd)) H
theorem Wlk.castY {index : Nat} {K : String} {a : Addr} (hd : decode code pc = .ok (.checkcast index, 3)) (wl : (Cond.classLink y.cls index K).before a0 Z = true) (F : Ins Z h a K true) (hp : pc + 3 = pc') (H : Wlk G R Z y code ret w J Q h k n pc' Ls (.ref a :: st)) : Wlk G R Z y code ret w J Q h k n pc Ls (.ref a :: st) := by
  subst hp
  exact Wlk.reads rfl (fun vm0 T L hG hsz X eT hZ hown hE => Jvm.RoadKit.castY X hG.1 hZ hown wl eT F (g := mkF G.m pc Ls (.ref a :: st)) rfl rfl (hb hG.2.1 hd)) H
theorem Wlk.castNull {index : Nat} (hd : decode code pc = .ok (.checkcast index, 3)) (hp : pc + 3 = pc') (H : Wlk G R Z y code ret w J Q h k n pc' Ls (.null :: st)) : Wlk G R Z y code ret w J Q h k n pc Ls (.null :: st) := by
  subst hp
  exact Wlk.reads rfl (fun vm0 T L hG hsz X eT hZ hown hE => ⟨T, X, eT, fun t q => X.checkcastNull hG.1 (g := mkF G.m pc Ls (.null :: st)) rfl rfl (hb hG.2.1 hd) t q⟩) H
theorem Wlk.instY {index : Nat} {K : String} {a : Addr} (hd : decode code pc = .ok (.instanceof index, 3)) (wl : (Cond.classLink y.cls index K).before a0 Z = true) (F : Ins Z h a K true) (hp : pc + 3 = pc') (H : Wlk G R Z y code ret w J Q h k n pc' Ls (.int 1 :: st)) : Wlk G R Z y code ret w J Q h k n pc Ls (.ref a :: st) := by
  subst hp
  exact Wlk.reads rfl (fun vm0 T L hG hsz X eT hZ hown hE => Jvm.RoadKit.instY X hG.1 hZ hown wl eT F (g := mkF G.m pc Ls (.ref a :: st)) rfl rfl (hb hG.2.1 hd)) H
theorem Wlk.instNull {index : Nat} (hd : decode code pc = .ok (.instanceof index, 3)) (hp : pc + 3 = pc') (H : Wlk G R Z y code ret w J Q h k n pc' Ls (.int 0 :: st)) : Wlk G R Z y code ret w J Q h k n pc Ls (.null :: st) := by
  subst hp
  exact Wlk.reads rfl (fun vm0 T L hG hsz X eT hZ hown hE => ⟨T, X, eT, fun t q => X.instanceofNull hG.1 (g := mkF G.m pc Ls (.null :: st)) rfl rfl (hb hG.2.1 hd) t q⟩) H
theorem Wlk.initO {index : Nat} {a : Addr} {W : Nat} (hd : decode code pc = .ok (.invokespecial index, 3)) (w1 : (Cond.methodLink y.cls index Lib.objectInit).before a0 Z = true) (w2 : (Cond.instanceMethod Lib.objectInit).before a0 Z = true) (w3 : (Cond.code Lib.objectInit ⟨#[0xb1]⟩ 1 none).before a0 Z = true)
    (hf : 1 ≤ R.frames) (hW : (st.map fun v => v.category).sum = W) (hl : W + 12 ≤ R.locals) (hp : pc + 3 = pc') (H : Wlk G R Z y code ret w J Q h k n pc' Ls st) : Wlk G R Z y code ret w J Q h k n pc Ls (.ref a :: st) := by
  subst hp
  exact Wlk.reads rfl (fun vm0 T L hG hsz X eT hZ hown hE => Jvm.RoadKit.initO X hG.1 hZ hown w1 w2 w3 eT (g := mkF G.m pc Ls (.ref a :: st)) rfl hsz rfl (hb hG.2.1 hd) hf (W := W) (by show 2 * 0 + _ ≤ _; omega) hl) H
theorem Wlk.newO {index sl : Nat} {C : String} (hd : decode code pc = .ok (.new index, 3)) (wl : (Cond.classLink y.cls index C).before a0 Z = true) (wi : (Cond.instantiable C sl).before a0 Z = true) (wz : (Cond.initialized C).before a0 Z = true) (hc : k + 1 ≤ R.cells) (hl : n + sl ≤ R.slots) (hp : pc + 3 = pc')
    (H : ∀ (a : Addr) (h' : Heap), h.size ≤ a → Z.heap.size ≤ a → Ext h h' → Exa Z h' a C → (∀ {O nm d : String} {ty : FieldType}, Laid Z a0 C O nm d → parseFieldDescriptor d = some ty → Fld Z h' a O nm d (defaultValue ty)) → Wlk G R Z y code ret w J Q h' (k + 1) (n + sl) pc' Ls (.ref a :: st)) : Wlk G R Z y code ret w J Q h k n pc Ls st := by
  subst hp
  refine Wlk.moves (P := fun h' => Z.heap.size ≤ h.size ∧ Ext h h' ∧ Exa Z h' h.size C ∧ (∀ {O nm d : String} {ty : FieldType}, Laid Z a0 C O nm d → parseFieldDescriptor d = some ty → Fld Z h' h.size O nm d (defaultValue ty))) (st' := .ref h.size :: st) rfl (fun vm0 T L hG hsz X eT hZ hown hE hF => ?_) (fun h' q => H h.size h' (Nat.le_refl _) q.1 q.2.1 q.2.2.1 q.2.2.2)
  obtain ⟨T', h', X', e', E', A', D', -, s'⟩ := Jvm.RoadKit.newO X hG.1 hZ hown wl wi wz eT (g := mkF G.m pc Ls st) rfl (hb hG.2.1 hd) hc hl
  exact ⟨T', h', L, X', e', E'.1, ⟨Nat.le_trans hE.1 E'.1, fun a c q => E'.2 a c (hE.2 a c q)⟩, hF, ⟨hE.1, E', A', D'⟩, s'⟩
theorem Wlk.newP {aty : ArrayType} {z : Int32} {cap : Nat} {ty : FieldType} (hd : decode code pc = .ok (.newarray aty, 2)) (hty : newarray.typeOf aty = ty) (wl : (Cond.arrayClass ty).before a0 Z = true) (hn : ¬ z < 0) (hcap : z.toNatClampNeg ≤ cap) (hbig : cap * 8 ≤ 536870912) (hc : k + 1 ≤ R.cells) (hl : n + cap ≤ R.slots) (hp : pc + 2 = pc')
    (H : ∀ (a : Addr) (h' : Heap) (kc : ClassId), h.size ≤ a → Z.heap.size ≤ a → Ext h h' → Arv Z h' a kc ty z [] (defaultValue ty) → Wlk G R Z y code ret w J Q h' (k + 1) (n + cap) pc' Ls (.ref a :: st)) : Wlk G R Z y code ret w J Q h k n pc Ls (.int z :: st) := by
  subst hp hty
  refine Wlk.moves (P := fun h' => Z.heap.size ≤ h.size ∧ Ext h h' ∧ ∃ kc, Arv Z h' h.size kc (newarray.typeOf aty) z [] (defaultValue (newarray.typeOf aty))) (st' := .ref h.size :: st) rfl (fun vm0 T L hG hsz X eT hZ hown hE hF => ?_) (fun h' q => q.2.2.elim fun kc A => H h.size h' kc (Nat.le_refl _) q.1 q.2.1 A)
  obtain ⟨T', h', cA, X', e', E', A', s'⟩ := Jvm.RoadKit.newP X hG.1 hZ wl eT (g := mkF G.m pc Ls (.int z :: st)) rfl (hb hG.2.1 hd) rfl hn hcap hbig hc hl
  exact ⟨T', h', L, X', e', E'.1, ⟨Nat.le_trans hE.1 E'.1, fun a c q => E'.2 a c (hE.2 a c q)⟩, hF, ⟨hE.1, E', cA, Arv.new A' hn⟩, s'⟩
theorem Wlk.newR {index : Nat} {C : String} {z : Int32} {cap : Nat} (hd : decode code pc = .ok (.anewarray index, 3)) (wl : (Cond.classLink y.cls index C).before a0 Z = true) (w2 : (Cond.arrayOver (.object C)).before a0 Z = true) (hn : ¬ z < 0) (hcap : z.toNatClampNeg ≤ cap) (hbig : cap * 8 ≤ 536870912) (hc : k + 1 ≤ R.cells) (hl : n + cap ≤ R.slots) (hp : pc + 3 = pc')
    (H : ∀ (a : Addr) (h' : Heap) (kc : ClassId), h.size ≤ a → Z.heap.size ≤ a → Ext h h' → Ovr Z kc C → Arv Z h' a kc (.object C) z [] .null → Wlk G R Z y code ret w J Q h' (k + 1) (n + cap) pc' Ls (.ref a :: st)) : Wlk G R Z y code ret w J Q h k n pc Ls (.int z :: st) := by
  subst hp
  refine Wlk.moves (P := fun h' => Z.heap.size ≤ h.size ∧ Ext h h' ∧ ∃ kc, Ovr Z kc C ∧ Arv Z h' h.size kc (.object C) z [] .null) (st' := .ref h.size :: st) rfl (fun vm0 T L hG hsz X eT hZ hown hE hF => ?_) (fun h' q => q.2.2.elim fun kc A => H h.size h' kc (Nat.le_refl _) q.1 q.2.1 A.1 A.2)
  obtain ⟨T', h', cA, X', e', E', A', O', s'⟩ := Jvm.RoadKit.newR X hG.1 hZ hown wl w2 eT (g := mkF G.m pc Ls (.int z :: st)) rfl (hb hG.2.1 hd) rfl hn hcap hbig hc hl
  exact ⟨T', h', L, X', e', E'.1, ⟨Nat.le_trans hE.1 E'.1, fun a c q => E'.2 a c (hE.2 a c q)⟩, hF, ⟨hE.1, E', cA, O', Arv.new A' hn⟩, s'⟩
theorem ext_wr {a : Addr} {sl : Nat} {v : Value} {h' : Heap} (hE : Ext Z.heap h) (g : Z.heap.size ≤ a) (W : Wr h h' a sl v) : Ext Z.heap h' := (Old.wr (n0 := Z.heap.size) ⟨rfl, hE⟩ W g).2
theorem Wlk.putF {index sl : Nat} {R0 O nm d C : String} {a : Addr} {v old : Value} {ty : FieldType} (hd : decode code pc = .ok (.putfield index, 3)) (wl : (Cond.fieldLink y.cls index R0 nm d).before a0 Z = true) (via : Via Z R0 O nm d) (F : Fld Z h a O nm d old) (E : Exa Z h a C) (LY : (Cond.lays C O nm d).before a0 Z = true ∨ ((Cond.laysFinal C O nm d).before a0 Z = true ∧ y.cls = O ∧ y.name = "<init>")) (wi : (Cond.instantiable C sl).before a0 Z = true)
    (hty : parseFieldDescriptor d = some ty) (hn : narrow ty v = v) (hf : fits ty v = true) (g : Z.heap.size ≤ a) (hp : pc + 3 = pc') (H : ∀ h', Wr h h' a (Jvm.RoadKit.slotOf Z O nm d) v → Wlk G R Z y code ret w J Q h' k n pc' Ls st) : Wlk G R Z y code ret w J Q h k n pc Ls (v :: .ref a :: st) := by
  subst hp
  refine Wlk.moves (P := fun h' => Wr h h' a (Jvm.RoadKit.slotOf Z O nm d) v) rfl (fun vm0 T L hG hsz X eT hZ hown hE hF => ?_) H
  obtain ⟨T', h', X', e', W', s'⟩ := Jvm.RoadKit.putF X hG.1 hZ hown (host := "") (Or.inl wl) via eT F E (LY.imp id fun q => ⟨q.1, q.2.1, hG.2.2.2.2.trans q.2.2⟩) wi hty hn hf (g := mkF G.m pc Ls (v :: .ref a :: st)) rfl rfl (hb hG.2.1 hd)
  exact ⟨T', h', _, X', e', Nat.le_of_eq W'.size.symm, ext_wr hE g W', Fr.snoc X' hF g, W', s'⟩
theorem Wlk.castore {a : Addr} {kc : ClassId} {z j x : Int32} {vs : List Value} {d : Value} {i : Nat} (hd : decode code pc = .ok (.castore, 1)) (A : Arv Z h a kc .char z vs d) (hj : ¬ j < 0 ∧ j < z) (hi : j.toNatClampNeg = i) (hv : i < vs.length) (g : Z.heap.size ≤ a) (hp : pc + 1 = pc')
    (H : ∀ h', Wr h h' a i (.int (nar .char x)) → Arv Z h' a kc .char z (vs.set i (.int (nar .char x))) d → Wlk G R Z y code ret w J Q h' k n pc' Ls st) : Wlk G R Z y code ret w J Q h k n pc Ls (.int x :: .int j :: .ref a :: st) := by
  subst hp hi
  obtain ⟨cl, Ar, q1, S, N, HH, GG⟩ := A
  refine Wlk.moves (P := fun h' => Wr h h' a j.toNatClampNeg (.int (nar .char x))) rfl (fun vm0 T L hG hsz X eT hZ hown hE hF => ?_) (fun h' W => H h' W (Arv.set Ar q1 S N HH GG (fits_nar_char x) W j.toNatClampNeg rfl hv))
  obtain ⟨T', h', X', e', W', s'⟩ := Jvm.RoadKit.stC X hG.1 hZ eT Ar (j := j) (inb_of S hj) (g := mkF G.m pc Ls (.int x :: .int j :: .ref a :: st)) rfl rfl (hb hG.2.1 hd)
  exact ⟨T', h', _, X', e', Nat.le_of_eq W'.size.symm, ext_wr hE g W', Fr.snoc X' hF g, W', s'⟩
theorem Wlk.bastore {a : Addr} {kc : ClassId} {z j x : Int32} {vs : List Value} {d : Value} {i : Nat} (hd : decode code pc = .ok (.bastore, 1)) (A : Arv Z h a kc .byte z vs d) (hj : ¬ j < 0 ∧ j < z) (hi : j.toNatClampNeg = i) (hv : i < vs.length) (g : Z.heap.size ≤ a) (hp : pc + 1 = pc')
    (H : ∀ h', Wr h h' a i (.int (nar .byte x)) → Arv Z h' a kc .byte z (vs.set i (.int (nar .byte x))) d → Wlk G R Z y code ret w J Q h' k n pc' Ls st) : Wlk G R Z y code ret w J Q h k n pc Ls (.int x :: .int j :: .ref a :: st) := by
  subst hp hi
  obtain ⟨cl, Ar, q1, S, N, HH, GG⟩ := A
  refine Wlk.moves (P := fun h' => Wr h h' a j.toNatClampNeg (.int (nar .byte x))) rfl (fun vm0 T L hG hsz X eT hZ hown hE hF => ?_) (fun h' W => H h' W (Arv.set Ar q1 S N HH GG (fits_nar_byte x) W j.toNatClampNeg rfl hv))
  obtain ⟨T', h', X', e', W', s'⟩ := Jvm.RoadKit.stB X hG.1 hZ eT Ar (j := j) (inb_of S hj) (g := mkF G.m pc Ls (.int x :: .int j :: .ref a :: st)) rfl rfl (hb hG.2.1 hd)
  exact ⟨T', h', _, X', e', Nat.le_of_eq W'.size.symm, ext_wr hE g W', Fr.snoc X' hF g, W', s'⟩
theorem Wlk.iastore {a : Addr} {kc : ClassId} {z j x : Int32} {vs : List Value} {d : Value} {i : Nat} (hd : decode code pc = .ok (.iastore, 1)) (A : Arv Z h a kc .int z vs d) (hj : ¬ j < 0 ∧ j < z) (hi : j.toNatClampNeg = i) (hv : i < vs.length) (g : Z.heap.size ≤ a) (hp : pc + 1 = pc')
    (H : ∀ h', Wr h h' a i (.int x) → Arv Z h' a kc .int z (vs.set i (.int x)) d → Wlk G R Z y code ret w J Q h' k n pc' Ls st) : Wlk G R Z y code ret w J Q h k n pc Ls (.int x :: .int j :: .ref a :: st) := by
  subst hp hi
  obtain ⟨cl, Ar, q1, S, N, HH, GG⟩ := A
  refine Wlk.moves (P := fun h' => Wr h h' a j.toNatClampNeg (.int x)) rfl (fun vm0 T L hG hsz X eT hZ hown hE hF => ?_) (fun h' W => H h' W (Arv.set Ar q1 S N HH GG (rfl) W j.toNatClampNeg rfl hv))
  obtain ⟨T', h', X', e', W', s'⟩ := Jvm.RoadKit.stI X hG.1 hZ eT Ar (j := j) (inb_of S hj) (g := mkF G.m pc Ls (.int x :: .int j :: .ref a :: st)) rfl rfl (hb hG.2.1 hd)
  exact ⟨T', h', _, X', e', Nat.le_of_eq W'.size.symm, ext_wr hE g W', Fr.snoc X' hF g, W', s'⟩
theorem Wlk.aastore {a : Addr} {kc : ClassId} {z j : Int32} {v : Value} {vs : List Value} {d : Value} {i : Nat} {ty : FieldType} (hd : decode code pc = .ok (.aastore, 1)) (A : Arv Z h a kc ty z vs d) (hty : ty.isReference = true) (hfv : fits ty v = true) (F : Sto Z h a v) (hj : ¬ j < 0 ∧ j < z) (hi : j.toNatClampNeg = i) (hv : i < vs.length) (g : Z.heap.size ≤ a) (hp : pc + 1 = pc')
    (H : ∀ h', Wr h h' a i v → Arv Z h' a kc ty z (vs.set i v) d → Wlk G R Z y code ret w J Q h' k n pc' Ls st) : Wlk G R Z y code ret w J Q h k n pc Ls (v :: .int j :: .ref a :: st) := by
  subst hp hi
  obtain ⟨cl, Ar, q1, S, N, HH, GG⟩ := A
  refine Wlk.moves (P := fun h' => Wr h h' a j.toNatClampNeg v) rfl (fun vm0 T L hG hsz X eT hZ hown hE hF => ?_) (fun h' W => H h' W (Arv.set Ar q1 S N HH GG hfv W j.toNatClampNeg rfl hv))
  obtain ⟨T', h', X', e', W', s'⟩ := Jvm.RoadKit.stR X hG.1 hZ eT Ar (j := j) (inb_of S hj) hty F (g := mkF G.m pc Ls (v :: .int j :: .ref a :: st)) rfl rfl (hb hG.2.1 hd)
  exact ⟨T', h', _, X', e', Nat.le_of_eq W'.size.symm, ext_wr hE g W', Fr.snoc X' hF g, W', s'⟩
theorem Wlk.caload {a : Addr} {kc : ClassId} {z j : Int32} {vs : List Value} {d v : Value} (hd : decode code pc = .ok (.caload, 1)) (A : Arv Z h a kc .char z vs d) (hj : ¬ j < 0 ∧ j < z) (hv : vs.getD j.toNatClampNeg d = v) (hp : pc + 1 = pc') (H : Wlk G R Z y code ret w J Q h k n pc' Ls (v :: st)) : Wlk G R Z y code ret w J Q h k n pc Ls (.int j :: .ref a :: st) := by
  subst hp
  obtain ⟨cl, Ar, q1, S, N, HH, GG⟩ := A
  have hin := inb_of S hj
  exact Wlk.reads rfl (fun vm0 T L hG hsz X eT hZ hown hE => ⟨T, X, eT, fun t q => X.caload hG.1 (j := j) (v := v) (by rw [eT]; exact Ar.1) (State.isArrayOf_alike hZ.alike Ar.2.1) Ar.2.2 hin (Has.at HH hin hv) (g := mkF G.m pc Ls (.int j :: .ref a :: st)) rfl rfl (hb hG.2.1 hd) t q⟩) H
theorem Wlk.baload {a : Addr} {kc : ClassId} {z j : Int32} {vs : List Value} {d v : Value} (hd : decode code pc = .ok (.baload, 1)) (A : Arv Z h a kc .byte z vs d) (hj : ¬ j < 0 ∧ j < z) (hv : vs.getD j.toNatClampNeg d = v) (hp : pc + 1 = pc') (H : Wlk G R Z y code ret w J Q h k n pc' Ls (v :: st)) : Wlk G R Z y code ret w J Q h k n pc Ls (.int j :: .ref a :: st) := by
  subst hp
  obtain ⟨cl, Ar, q1, S, N, HH, GG⟩ := A
  have hin := inb_of S hj
  exact Wlk.reads rfl (fun vm0 T L hG hsz X eT hZ hown hE => ⟨T, X, eT, fun t q => X.baloadBytes hG.1 (j := j) (v := v) (by rw [eT]; exact Ar.1) (State.isArrayOf_alike hZ.alike Ar.2.1) Ar.2.2 hin (Has.at HH hin hv) (g := mkF G.m pc Ls (.int j :: .ref a :: st)) rfl rfl (hb hG.2.1 hd) t q⟩) H
theorem Wlk.iaload {a : Addr} {kc : ClassId} {z j : Int32} {vs : List Value} {d v : Value} (hd : decode code pc = .ok (.iaload, 1)) (A : Arv Z h a kc .int z vs d) (hj : ¬ j < 0 ∧ j < z) (hv : vs.getD j.toNatClampNeg d = v) (hp : pc + 1 = pc') (H : Wlk G R Z y code ret w J Q h k n pc' Ls (v :: st)) : Wlk G R Z y code ret w J Q h k n pc Ls (.int j :: .ref a :: st) := by
  subst hp
  obtain ⟨cl, Ar, q1, S, N, HH, GG⟩ := A
  have hin := inb_of S hj
  exact Wlk.reads rfl (fun vm0 T L hG hsz X eT hZ hown hE => ⟨T, X, eT, fun t q => X.iaload hG.1 (j := j) (v := v) (by rw [eT]; exact Ar.1) (State.isArrayOf_alike hZ.alike Ar.2.1) Ar.2.2 hin (Has.at HH hin hv) (g := mkF G.m pc Ls (.int j :: .ref a :: st)) rfl rfl (hb hG.2.1 hd) t q⟩) H
theorem Wlk.aaload {a : Addr} {kc : ClassId} {z j : Int32} {vs : List Value} {d v : Value} {ty : FieldType} (hd : decode code pc = .ok (.aaload, 1)) (A : Arv Z h a kc ty z vs d) (hty : ty.isReference = true) (hj : ¬ j < 0 ∧ j < z) (hv : vs.getD j.toNatClampNeg d = v) (hp : pc + 1 = pc') (H : Wlk G R Z y code ret w J Q h k n pc' Ls (v :: st)) : Wlk G R Z y code ret w J Q h k n pc Ls (.int j :: .ref a :: st) := by
  subst hp
  obtain ⟨cl, Ar, q1, S, N, HH, GG⟩ := A
  have hin := inb_of S hj
  exact Wlk.reads rfl (fun vm0 T L hG hsz X eT hZ hown hE => ⟨T, X, eT, fun t q => X.aaload hG.1 (j := j) (v := v) (by rw [eT]; exact Ar.1) (State.isArrayOf_alike hZ.alike Ar.2.1) hty Ar.2.2 hin (Has.at HH hin hv) (g := mkF G.m pc Ls (.int j :: .ref a :: st)) rfl rfl (hb hG.2.1 hd) t q⟩) H
theorem Wlk.arraylength {a : Addr} {kc : ClassId} {z : Int32} {vs : List Value} {d : Value} {ty : FieldType} (hd : decode code pc = .ok (.arraylength, 1)) (A : Arv Z h a kc ty z vs d) (hp : pc + 1 = pc') (H : Wlk G R Z y code ret w J Q h k n pc' Ls (.int z :: st)) : Wlk G R Z y code ret w J Q h k n pc Ls (.ref a :: st) := by
  subst hp
  obtain ⟨cl, Ar, q1, S, N, HH, GG⟩ := A
  exact Wlk.reads rfl (fun vm0 T L hG hsz X eT hZ hown hE => ⟨T, X, eT, fun t q => X.arraylength hG.1 (by rw [eT]; exact Ar.1) (State.isArrayOf_alike hZ.alike Ar.2.1) (g := mkF G.m pc Ls (.ref a :: st)) rfl rfl (hb hG.2.1 hd) t (by rw [len_of S N]; exact q)⟩) H
/-! ## the ends -/
theorem Wlk.leaves {v : Option Value} (hv : ret = none → v = none) (hstep : ∀ (vm0 : Vm) (T : State) (L : List Loc) (fs : List Frame), Cok G y code ret → Stand G.p G.l G.e R (G.s.setVm vm0) G.m G.args G.below G.meth G.c T L k n → (∀ (f : JFrame) (acts : List Action), f.method = G.m → f.locked = none → f.entered = [] → (doReturn G.e (T.setTop f) acts v).1 = T.setFrames fs) → Steps G.p.tables G.e G.below (T.setTop (mkF G.m pc Ls st)) (T.setFrames fs))
    (hc : k ≤ R.cells) (hs : n ≤ R.slots) (hq : Q v h J) : Wlk G R Z y code ret w J Q h k n pc Ls st := by
  intro hG hsz T L hP
  obtain ⟨vm0, k0, X, eT, hS, hk, hZ, hown, hw, hB, hE, hF⟩ := hP
  obtain ⟨fs, hr, hrun, hended, hend⟩ := (X.more hc hs).leaveW hS (by rw [eT]; exact hk) (v := v) (fun q => hv (hG.2.2.1.symm.trans q)) hG.2.2.2.1
  have eh : (T.setFrames fs).heap = h := eT
  refine ⟨_, _, hstep vm0 T L fs hG X hr, hrun, hended, v, L, J, rfl, ⟨by rw [eh]; exact hq, hF, by rw [eh]; exact hE, fun q => Books.warm (s := G.s) (hB q) X.warmed⟩, hend, fun q => ?_⟩
  have q' := hw q
  subst q'
  exact X.warmed
theorem Wlk.ireturnN {z : Int32} {t : FieldType} (hd : decode code pc = .ok (.ireturn, 1)) (hret : ret = some t) (ht : t = .boolean ∨ t = .byte ∨ t = .char ∨ t = .short) (hc : k ≤ R.cells) (hs : n ≤ R.slots) (hq : Q (some (.int (nar t z))) h J) : Wlk G R Z y code ret w J Q h k n pc Ls (.int z :: st) :=
  Wlk.leaves (fun q => by rw [hret] at q; cases q) (fun vm0 T L fs hG X hr => retN X hG.1 (hG.2.2.1.trans hret) ht (hb hG.2.1 hd) hr) hc hs hq
theorem Wlk.ireturnI {z : Int32} (hd : decode code pc = .ok (.ireturn, 1)) (hret : ret = some .int) (hc : k ≤ R.cells) (hs : n ≤ R.slots) (hq : Q (some (.int z)) h J) : Wlk G R Z y code ret w J Q h k n pc Ls (.int z :: st) :=
  Wlk.leaves (fun q => by rw [hret] at q; cases q) (fun vm0 T L fs hG X hr => retOut X hG.1 (hG.2.2.1.trans hret) rfl (Or.inl ⟨rfl, Or.inl rfl, z, rfl⟩) (hb hG.2.1 hd) hr) hc hs hq
theorem Wlk.areturn {v : Value} {t : FieldType} (hd : decode code pc = .ok (.areturn, 1)) (hret : ret = some t) (ht : t.isReference = true) (hv : v.isRef = true) (hn : narrow t v = v) (hc : k ≤ R.cells) (hs : n ≤ R.slots) (hq : Q (some v) h J) : Wlk G R Z y code ret w J Q h k n pc Ls (v :: st) :=
  Wlk.leaves (fun q => by rw [hret] at q; cases q) (fun vm0 T L fs hG X hr => retOut X hG.1 (hG.2.2.1.trans hret) hn (Or.inr (Or.inr (Or.inr (Or.inr ⟨rfl, ht, hv⟩)))) (hb hG.2.1 hd) hr) hc hs hq
theorem Wlk.return_ (hd : decode code pc = .ok (.return_, 1)) (hret : ret = none) (hc : k ≤ R.cells) (hs : n ≤ R.slots) (hq : Q none h J) : Wlk G R Z y code ret w J Q h k n pc Ls [] :=
  Wlk.leaves (fun _ => rfl) (fun vm0 T L fs hG X hr => X.returnOut hG.1 (hG.2.2.1.trans hret) (hb hG.2.1 hd) hr) hc hs hq
/-! ## calls -/
theorem Met.narrow {l : Launch} {y : MethodName} {zc : ByteArray} {zm : Nat} {zr : Option FieldType} {rm : Room} {as' : Array Value} {J0 : JJ} {Q' : Option Value → Heap → JJ → Prop} (M : Met l Z y zc zm zr false [] rm as' h J0 Q') (hE : Ext Z.heap h) :
    MetFree l y (head1 [Jvm.Cond.code y zc zm zr] rm) (fun a U => a = as' ∧ Z.Warmed39 U.vm ∧ U.heap = h) (fun _ _ _ _ _ => True) (fun _ U o U' => ∃ v L, o = .returned v ∧ ((∃ J', Q' v U'.heap J') ∧ Fr Z.heap.size L ∧ Ext Z.heap U'.heap ∧ h.size ≤ U'.heap.size) ∧ FrameEnd U o U' L rm.cells rm.slots) := by
  intro p e ha hc hk s m args below hf happ hP hK
  obtain ⟨n, o, h1, h2, h3, v, L, J', h4, ⟨h5, h6, h7, -⟩, h8, h9⟩ := M p e ha hc hk s m args below hf happ ⟨hP.1, hP.2.1, hP.2.2, hE, nofun⟩ hK
  exact ⟨n, o, h1, h2, h3, v, L, h4, ⟨⟨J', h5⟩, h6, h7, by have q := h8.2.2.2.2.1; rw [← hP.2.2]; exact q⟩, ⟨v, h4⟩, h9 rfl, h8.2.2.2⟩
theorem Met.wideBack {l : Launch} {p : Program} {e : Env} {s : State} {args : Array Value} {below : List Frame} {y : MethodName} {zc : ByteArray} {zm : Nat} {zr : Option FieldType} {rm : Room} {as' : Array Value} {J : JJ} {len W : Nat} {Q' : Option Value → Heap → JJ → Prop} (M : Met l Z y zc zm zr true [] rm as' h J Q') (hZ : Z.Warmed39 s.vm) (hE : Ext Z.heap h) (hB : Books Z s.vm J) (wc : (Cond.code y zc zm zr).before a0 Z = true) (wz : (Cond.initialized y.cls).before a0 Z = true) (hf : rm.frames + 1 ≤ R.frames) (hl : W + (zm + 11) + rm.locals ≤ R.locals) :
    BackS l R p e below s args y len W (fun A a => a = as' ∧ A.U.heap = h ∧ A.cells + rm.cells ≤ R.cells ∧ A.slots + rm.slots ≤ R.slots) (fun A _ v B => ∃ L, (∃ J', (Q' v B.U.heap J' ∧ Books Z B.U.vm J') ∧ Fr Z.heap.size L ∧ Ext Z.heap B.U.heap) ∧ B.locs = A.locs ++ L ∧ B.cells = A.cells + rm.cells ∧ B.slots = A.slots + rm.slots) :=
  BackS.of_freeW (bytes := zc) (maxL := zm) (ret := zr) (E := fun _ _ o t L k n => k = rm.cells ∧ n = rm.slots ∧ ∃ v J', o = .returned v ∧ (Q' v t.heap J' ∧ Books Z t.vm J') ∧ Fr Z.heap.size L ∧ Ext Z.heap t.heap) M hf hl
    (fun m meth c A a Y hp => have hU : Z.Warmed39 A.U.vm := wtrans hZ Y.warmed
      ⟨by show (Cond.and _ .tt).before a A.U = true; rw [Cond.before_and, mv hU wc]; rfl, mv hU wc, mv hU wz, hp.2.2.1, hp.2.2.2⟩)
    (fun m meth c A a g mk Y hp => ⟨hp.1, wtrans hZ Y.warmed, hp.2.1, hE, fun _ => Books.warm (s := s) (vm0 := s.vm) hB Y.warmed⟩) (fun _ _ _ _ _ _ _ _ _ => trivial)
    (fun _ _ _ _ ⟨v, L, J', h1, ⟨h2, h3, h4, h5⟩, h6⟩ => ⟨L, _, _, h6.1, rfl, rfl, v, J', h1, ⟨h2, h5 rfl⟩, h3, h4⟩)
    (fun m meth c A a g mk v t L k n Y hp _ _ ⟨e1, e2, v', J', e3, e4⟩ => by cases e3; subst e1 e2; exact ⟨L, ⟨J', e4⟩, rfl, rfl, rfl⟩)
theorem Wlk.callS {z : MethodName} {index : Nat} {zc : ByteArray} {zm : Nat} {rm : Room} {argsL : List Value} {stk : List Value} {W : Nat} {ps : List FieldType} {r : Option FieldType} {Q' : Option Value → Heap → JJ → Prop} {zr : Option FieldType} {J0 : JJ} (hd : decode code pc = .ok (.invokestatic index, 3)) (wl : (Cond.methodLink y.cls index z).before a0 Z = true) (ws : (Cond.static z).before a0 Z = true) (wz : (Cond.initialized z.cls).before a0 Z = true) (wc : (Cond.code z zc zm zr).before a0 Z = true) (hy : z.cls ≠ "java/lang/invoke/MethodHandle" ∧ z.cls ≠ "java/lang/invoke/VarHandle")
    (pd : parseMethodDescriptor z.desc = some ⟨ps, r⟩) (hlen : argsL.length = ps.length) (M : Met G.l Z z zc zm zr false [] rm argsL.toArray h J0 Q') (hf : rm.frames + 1 ≤ R.frames) (hW : (st.map fun v => v.category).sum = W) (hl : W + (zm + 11) + rm.locals ≤ R.locals) (hc : k + rm.cells ≤ R.cells) (hs : n + rm.slots ≤ R.slots) (hst : stk = argsL.reverse ++ st) (hp : pc + 3 = pc')
    (H : ∀ v h' J', Q' v h' J' → Wlk G R Z y code ret w J Q h' (k + rm.cells) (n + rm.slots) pc' Ls (v.toList ++ st)) : Wlk G R Z y code ret w J Q h k n pc Ls stk := by
  subst hp hst
  intro hG hsz T L hP
  obtain ⟨vm0, k0, X, eT, hS, hk, hZ, hown, hw, hB, hE, hF⟩ := hP
  have hZ' : Z.Warmed39 (G.s.setVm vm0).vm := hZ
  obtain ⟨v, vm₁, ⟨T', L', k', n'⟩, -, X', ⟨Lc, hQ, l1, y1, z1⟩, s'⟩ := Jvm.LawKit.callS X hG.1 (y := z) hown (mvT hZ' wl) (mvT hZ' ws) (mvT hZ' wz) (mvT hZ' wc) hy (backOf (W := W) (len := 3) (Q := fun v h' L => (∃ J', Q' v h' J') ∧ Fr Z.heap.size L ∧ Ext Z.heap h' ∧ h.size ≤ h'.size) (M.narrow hE) hZ' wc wz hf hl) (g := mkF G.m pc Ls (argsL.reverse ++ st)) rfl hsz (argsL := argsL) (rest := st) (lenOf pd hlen) rfl (by show 2 * 0 + _ ≤ _; omega) (hb hG.2.1 hd) (fun _ _ => ⟨rfl, eT, hc, hs⟩)
  dsimp only [Pt.U, Pt.locs, Pt.cells, Pt.slots] at X' l1 y1 z1 s' hQ
  subst l1 y1 z1
  obtain ⟨⟨J', hQ⟩, hFc, hEc, hgr⟩ := hQ
  obtain ⟨s₂, o, hs2, rr⟩ := H v T'.heap J' hQ hG hsz T' _ ⟨vm0, k0, X', rfl, hS, Nat.le_trans hk hgr, hZ, hown, hw, hB, hEc, Fr.app hF hFc⟩
  exact ⟨s₂, o, s' _ hs2, rr⟩
theorem Wlk.callSw {z : MethodName} {index : Nat} {zc : ByteArray} {zm : Nat} {rm : Room} {argsL : List Value} {stk : List Value} {W : Nat} {ps : List FieldType} {r : Option FieldType} {Q' : Option Value → Heap → JJ → Prop} {zr : Option FieldType} (hd : decode code pc = .ok (.invokestatic index, 3)) (wl : (Cond.methodLink y.cls index z).before a0 Z = true) (ws : (Cond.static z).before a0 Z = true) (wz : (Cond.initialized z.cls).before a0 Z = true) (wc : (Cond.code z zc zm zr).before a0 Z = true) (hy : z.cls ≠ "java/lang/invoke/MethodHandle" ∧ z.cls ≠ "java/lang/invoke/VarHandle")
    (pd : parseMethodDescriptor z.desc = some ⟨ps, r⟩) (hlen : argsL.length = ps.length) (M : Met G.l Z z zc zm zr true [] rm argsL.toArray h J Q') (hf : rm.frames + 1 ≤ R.frames) (hW : (st.map fun v => v.category).sum = W) (hl : W + (zm + 11) + rm.locals ≤ R.locals) (hc : k + rm.cells ≤ R.cells) (hs : n + rm.slots ≤ R.slots) (hst : stk = argsL.reverse ++ st) (hp : pc + 3 = pc')
    (H : ∀ v h' J', Q' v h' J' → Wlk G R Z y code ret true J' Q h' (k + rm.cells) (n + rm.slots) pc' Ls (v.toList ++ st)) : Wlk G R Z y code ret true J Q h k n pc Ls stk := by
  subst hp hst
  intro hG hsz T L hP
  obtain ⟨vm0, k0, X, eT, hS, hk, hZ, hown, hw, hB, hE, hF⟩ := hP
  have hZ' : Z.Warmed39 (G.s.setVm vm0).vm := hZ
  obtain ⟨v, vm₁, ⟨T', L', k', n'⟩, -, X', hS', hgr, ⟨Lc, hQ, l1, y1, z1⟩, s'⟩ := callSS X hG.1 (y := z) hown (mvT hZ' wl) (mvT hZ' ws) (mvT hZ' wz) (mvT hZ' wc) hy (Met.wideBack (W := W) (len := 3) M hZ' hE (hB rfl) wc wz hf hl) (g := mkF G.m pc Ls (argsL.reverse ++ st)) rfl hsz (argsL := argsL) (rest := st) (lenOf pd hlen) rfl (by show 2 * 0 + _ ≤ _; omega) (hb hG.2.1 hd) (fun _ _ => ⟨rfl, eT, hc, hs⟩)
  dsimp only [Pt.U, Pt.locs, Pt.cells, Pt.slots] at X' l1 y1 z1 s' hQ hS' hgr
  subst l1 y1 z1
  obtain ⟨J', ⟨hQ, hBc⟩, hFc, hEc⟩ := hQ
  obtain ⟨X2, hS2, hZ2, hown2⟩ := rebS (k0 := k0) (n1 := T.heap.size) hS (by rw [eT]; exact hk) X' hS' hgr hZ' hown
  obtain ⟨s₂, o, hs2, rr⟩ := H v T'.heap J' hQ hG hsz T' _ ⟨T'.vm, T'.heap.size, X2, rfl, hS2, Nat.le_refl _, hZ2, hown2, nofun, fun _ => hBc, hEc, Fr.app hF hFc⟩
  exact ⟨s₂, o, s'.trans hs2, rr⟩
theorem Wlk.callC {z : MethodName} {index : Nat} {zc : ByteArray} {zm : Nat} {rm : Room} {argsL : List Value} {stk : List Value} {W : Nat} {ps : List FieldType} {r : Option FieldType} {Q' : Option Value → Heap → JJ → Prop} {a : Addr} {J0 : JJ} (hd : decode code pc = .ok (.invokespecial index, 3)) (wl : (Cond.methodLink y.cls index z).before a0 Z = true) (wi : (Cond.instanceMethod z).before a0 Z = true) (wz : (Cond.initialized z.cls).before a0 Z = true) (wc : (Cond.code z zc zm none).before a0 Z = true) (hy : z.cls ≠ "java/lang/invoke/MethodHandle" ∧ z.cls ≠ "java/lang/invoke/VarHandle") (hin : z.name = "<init>")
    (pd : parseMethodDescriptor z.desc = some ⟨ps, r⟩) (hlen : argsL.length = ps.length) (M : Met G.l Z z zc zm none false [] rm (.ref a :: argsL).toArray h J0 Q') (hf : rm.frames + 1 ≤ R.frames) (hW : (st.map fun v => v.category).sum = W) (hl : W + (zm + 11) + rm.locals ≤ R.locals) (hc : k + rm.cells ≤ R.cells) (hs : n + rm.slots ≤ R.slots) (hst : stk = argsL.reverse ++ .ref a :: st) (hp : pc + 3 = pc')
    (H : ∀ v h' J', Q' v h' J' → Wlk G R Z y code ret w J Q h' (k + rm.cells) (n + rm.slots) pc' Ls (v.toList ++ st)) : Wlk G R Z y code ret w J Q h k n pc Ls stk := by
  subst hp hst
  intro hG hsz T L hP
  obtain ⟨vm0, k0, X, eT, hS, hk, hZ, hown, hw, hB, hE, hF⟩ := hP
  have hZ' : Z.Warmed39 (G.s.setVm vm0).vm := hZ
  obtain ⟨v, vm₁, ⟨T', L', k', n'⟩, -, X', ⟨Lc, hQ, l1, y1, z1⟩, s'⟩ := X.specialBack hG.1 (y := z) hin hown (mvT hZ' wl) (mvT hZ' wi) (mvT hZ' wc) hy (backOf (W := W) (len := 3) (Q := fun v h' L => (∃ J', Q' v h' J') ∧ Fr Z.heap.size L ∧ Ext Z.heap h' ∧ h.size ≤ h'.size) (M.narrow hE) hZ' wc wz hf hl) (g := mkF G.m pc Ls (argsL.reverse ++ .ref a :: st)) rfl hsz (Steps.refl _) (a := a) (argsL := argsL) (rest := st) (lenOf pd hlen) rfl (by show 2 * 0 + _ ≤ _; omega) (hb hG.2.1 hd) (fun _ _ => ⟨rfl, eT, hc, hs⟩)
  dsimp only [Pt.U, Pt.locs, Pt.cells, Pt.slots] at X' l1 y1 z1 s' hQ
  subst l1 y1 z1
  obtain ⟨⟨J', hQ⟩, hFc, hEc, hgr⟩ := hQ
  obtain ⟨s₂, o, hs2, rr⟩ := H v T'.heap J' hQ hG hsz T' _ ⟨vm0, k0, X', rfl, hS, Nat.le_trans hk hgr, hZ, hown, hw, hB, hEc, Fr.app hF hFc⟩
  exact ⟨s₂, o, s'.trans hs2, rr⟩
theorem Wlk.callCw {z : MethodName} {index : Nat} {zc : ByteArray} {zm : Nat} {rm : Room} {argsL : List Value} {stk : List Value} {W : Nat} {ps : List FieldType} {r : Option FieldType} {Q' : Option Value → Heap → JJ → Prop} {a : Addr} (hd : decode code pc = .ok (.invokespecial index, 3)) (wl : (Cond.methodLink y.cls index z).before a0 Z = true) (wi : (Cond.instanceMethod z).before a0 Z = true) (wz : (Cond.initialized z.cls).before a0 Z = true) (wc : (Cond.code z zc zm none).before a0 Z = true) (hy : z.cls ≠ "java/lang/invoke/MethodHandle" ∧ z.cls ≠ "java/lang/invoke/VarHandle") (hin : z.name = "<init>")
    (pd : parseMethodDescriptor z.desc = some ⟨ps, r⟩) (hlen : argsL.length = ps.length) (M : Met G.l Z z zc zm none true [] rm (.ref a :: argsL).toArray h J Q') (hf : rm.frames + 1 ≤ R.frames) (hW : (st.map fun v => v.category).sum = W) (hl : W + (zm + 11) + rm.locals ≤ R.locals) (hc : k + rm.cells ≤ R.cells) (hs : n + rm.slots ≤ R.slots) (hst : stk = argsL.reverse ++ .ref a :: st) (hp : pc + 3 = pc')
    (H : ∀ v h' J', Q' v h' J' → Wlk G R Z y code ret true J' Q h' (k + rm.cells) (n + rm.slots) pc' Ls (v.toList ++ st)) : Wlk G R Z y code ret true J Q h k n pc Ls stk := by
  subst hp hst
  intro hG hsz T L hP
  obtain ⟨vm0, k0, X, eT, hS, hk, hZ, hown, hw, hB, hE, hF⟩ := hP
  have hZ' : Z.Warmed39 (G.s.setVm vm0).vm := hZ
  obtain ⟨v, vm₁, ⟨T', L', k', n'⟩, -, X', hS', hgr, ⟨Lc, hQ, l1, y1, z1⟩, s'⟩ := X.specialBackS hG.1 (y := z) hin hown (mvT hZ' wl) (mvT hZ' wi) (mvT hZ' wc) hy (Met.wideBack (W := W) (len := 3) M hZ' hE (hB rfl) wc wz hf hl) (g := mkF G.m pc Ls (argsL.reverse ++ .ref a :: st)) rfl hsz (Steps.refl _) (a := a) (argsL := argsL) (rest := st) (lenOf pd hlen) rfl (by show 2 * 0 + _ ≤ _; omega) (hb hG.2.1 hd) (fun _ _ => ⟨rfl, eT, hc, hs⟩)
  dsimp only [Pt.U, Pt.locs, Pt.cells, Pt.slots] at X' l1 y1 z1 s' hQ hS' hgr
  subst l1 y1 z1
  obtain ⟨J', ⟨hQ, hBc⟩, hFc, hEc⟩ := hQ
  obtain ⟨X2, hS2, hZ2, hown2⟩ := rebS (k0 := k0) (n1 := T.heap.size) hS (by rw [eT]; exact hk) X' hS' hgr hZ' hown
  obtain ⟨s₂, o, hs2, rr⟩ := H v T'.heap J' hQ hG hsz T' _ ⟨T'.vm, T'.heap.size, X2, rfl, hS2, Nat.le_refl _, hZ2, hown2, nofun, fun _ => hBc, hEc, Fr.app hF hFc⟩
  exact ⟨s₂, o, s'.trans hs2, rr⟩
theorem Wlk.callV {z : MethodName} {index : Nat} {zc : ByteArray} {zm : Nat} {rm : Room} {argsL : List Value} {stk : List Value} {W : Nat} {ps : List FieldType} {r : Option FieldType} {Q' : Option Value → Heap → JJ → Prop} {zr : Option FieldType} {a : Addr} {x : MethodName} {C : String} {J0 : JJ} (hd : decode code pc = .ok (.invokevirtual index, 3)) (wl : (Cond.methodLink y.cls index x).before a0 Z = true) (wd : (Cond.declares x).before a0 Z = true) (wn : ∀ s : State, Z.Warmed39 s.vm → NotFace s x) (wsel : (Cond.selects C x z).before a0 Z = true) (wi : (Cond.instanceMethod z).before a0 Z = true) (E : Exa Z h a C) (wz : (Cond.initialized z.cls).before a0 Z = true) (wc : (Cond.code z zc zm zr).before a0 Z = true) (hy : x.cls ≠ "java/lang/invoke/MethodHandle" ∧ x.cls ≠ "java/lang/invoke/VarHandle")
    (pd : parseMethodDescriptor x.desc = some ⟨ps, r⟩) (hlen : argsL.length = ps.length) (M : Met G.l Z z zc zm zr false [] rm (.ref a :: argsL).toArray h J0 Q') (hf : rm.frames + 1 ≤ R.frames) (hW : (st.map fun v => v.category).sum = W) (hl : W + (zm + 11) + rm.locals ≤ R.locals) (hc : k + rm.cells ≤ R.cells) (hs : n + rm.slots ≤ R.slots) (hst : stk = argsL.reverse ++ .ref a :: st) (hp : pc + 3 = pc')
    (H : ∀ v h' J', Q' v h' J' → Wlk G R Z y code ret w J Q h' (k + rm.cells) (n + rm.slots) pc' Ls (v.toList ++ st)) : Wlk G R Z y code ret w J Q h k n pc Ls stk := by
  subst hp hst
  intro hG hsz T L hP
  obtain ⟨vm0, k0, X, eT, hS, hk, hZ, hown, hw, hB, hE, hF⟩ := hP
  have hZ' : Z.Warmed39 (G.s.setVm vm0).vm := hZ
  obtain ⟨cq, kq, qa, qb, qc⟩ := isOf hZ' eT E
  obtain ⟨v, vm₁, ⟨T', L', k', n'⟩, -, X', ⟨Lc, hQ, l1, y1, z1⟩, s'⟩ := X.virtualBack hG.1 (y := x) (z := z) hown (mvT hZ' wl) (mvT hZ' wd) (wn _ hZ') (mvT hZ' wsel) (mvT hZ' wi) hy (backOf (W := W) (len := 3) (Q := fun v h' L => (∃ J', Q' v h' J') ∧ Fr Z.heap.size L ∧ Ext Z.heap h' ∧ h.size ≤ h'.size) (M.narrow hE) hZ' wc wz hf hl) qa qc (g := mkF G.m pc Ls (argsL.reverse ++ .ref a :: st)) rfl hsz (Steps.refl _) (argsL := argsL) (rest := st) (lenOf pd hlen) rfl (by show 2 * 0 + _ ≤ _; omega) (hb hG.2.1 hd) (fun _ _ => ⟨rfl, eT, hc, hs⟩)
  dsimp only [Pt.U, Pt.locs, Pt.cells, Pt.slots] at X' l1 y1 z1 s' hQ
  subst l1 y1 z1
  obtain ⟨⟨J', hQ⟩, hFc, hEc, hgr⟩ := hQ
  obtain ⟨s₂, o, hs2, rr⟩ := H v T'.heap J' hQ hG hsz T' _ ⟨vm0, k0, X', rfl, hS, Nat.le_trans hk hgr, hZ, hown, hw, hB, hEc, Fr.app hF hFc⟩
  exact ⟨s₂, o, s'.trans hs2, rr⟩
theorem Wlk.callVw {z : MethodName} {index : Nat} {zc : ByteArray} {zm : Nat} {rm : Room} {argsL : List Value} {stk : List Value} {W : Nat} {ps : List FieldType} {r : Option FieldType} {Q' : Option Value → Heap → JJ → Prop} {zr : Option FieldType} {a : Addr} {x : MethodName} {C : String} (hd : decode code pc = .ok (.invokevirtual index, 3)) (wl : (Cond.methodLink y.cls index x).before a0 Z = true) (wd : (Cond.declares x).before a0 Z = true) (wn : ∀ s : State, Z.Warmed39 s.vm → NotFace s x) (wsel : (Cond.selects C x z).before a0 Z = true) (wi : (Cond.instanceMethod z).before a0 Z = true) (E : Exa Z h a C) (wz : (Cond.initialized z.cls).before a0 Z = true) (wc : (Cond.code z zc zm zr).before a0 Z = true) (hy : x.cls ≠ "java/lang/invoke/MethodHandle" ∧ x.cls ≠ "java/lang/invoke/VarHandle")
    (pd : parseMethodDescriptor x.desc = some ⟨ps, r⟩) (hlen : argsL.length = ps.length) (M : Met G.l Z z zc zm zr true [] rm (.ref a :: argsL).toArray h J Q') (hf : rm.frames + 1 ≤ R.frames) (hW : (st.map fun v => v.category).sum = W) (hl : W + (zm + 11) + rm.locals ≤ R.locals) (hc : k + rm.cells ≤ R.cells) (hs : n + rm.slots ≤ R.slots) (hst : stk = argsL.reverse ++ .ref a :: st) (hp : pc + 3 = pc')
    (H : ∀ v h' J', Q' v h' J' → Wlk G R Z y code ret true J' Q h' (k + rm.cells) (n + rm.slots) pc' Ls (v.toList ++ st)) : Wlk G R Z y code ret true J Q h k n pc Ls stk := by
  subst hp hst
  intro hG hsz T L hP
  obtain ⟨vm0, k0, X, eT, hS, hk, hZ, hown, hw, hB, hE, hF⟩ := hP
  have hZ' : Z.Warmed39 (G.s.setVm vm0).vm := hZ
  obtain ⟨cq, kq, qa, qb, qc⟩ := isOf hZ' eT E
  obtain ⟨v, vm₁, ⟨T', L', k', n'⟩, -, X', hS', hgr, ⟨Lc, hQ, l1, y1, z1⟩, s'⟩ := X.virtualBackS hG.1 (y := x) (z := z) hown (mvT hZ' wl) (mvT hZ' wd) (wn _ hZ') (mvT hZ' wsel) (mvT hZ' wi) hy (Met.wideBack (W := W) (len := 3) M hZ' hE (hB rfl) wc wz hf hl) qa qc (g := mkF G.m pc Ls (argsL.reverse ++ .ref a :: st)) rfl hsz (Steps.refl _) (argsL := argsL) (rest := st) (lenOf pd hlen) rfl (by show 2 * 0 + _ ≤ _; omega) (hb hG.2.1 hd) (fun _ _ => ⟨rfl, eT, hc, hs⟩)
  dsimp only [Pt.U, Pt.locs, Pt.cells, Pt.slots] at X' l1 y1 z1 s' hQ hS' hgr
  subst l1 y1 z1
  obtain ⟨J', ⟨hQ, hBc⟩, hFc, hEc⟩ := hQ
  obtain ⟨X2, hS2, hZ2, hown2⟩ := rebS (k0 := k0) (n1 := T.heap.size) hS (by rw [eT]; exact hk) X' hS' hgr hZ' hown
  obtain ⟨s₂, o, hs2, rr⟩ := H v T'.heap J' hQ hG hsz T' _ ⟨T'.vm, T'.heap.size, X2, rfl, hS2, Nat.le_refl _, hZ2, hown2, nofun, fun _ => hBc, hEc, Fr.app hF hFc⟩
  exact ⟨s₂, o, s'.trans hs2, rr⟩
theorem Wlk.callP {z : MethodName} {index : Nat} {zc : ByteArray} {zm : Nat} {rm : Room} {argsL : List Value} {stk : List Value} {W : Nat} {ps : List FieldType} {r : Option FieldType} {Q' : Option Value → Heap → JJ → Prop} {zr : Option FieldType} {a : Addr} {J0 : JJ} (hd : decode code pc = .ok (.invokevirtual index, 3)) (wl : (Cond.methodLink y.cls index z).before a0 Z = true) (wi : (Cond.instanceMethod z).before a0 Z = true) (wsel : (Cond.selects z.cls z z).before a0 Z = true) (wp : (Cond.privateMethod z).before a0 Z = true) {C : String} (E : Exa Z h a C) (wz : (Cond.initialized z.cls).before a0 Z = true) (wc : (Cond.code z zc zm zr).before a0 Z = true) (hy : z.cls ≠ "java/lang/invoke/MethodHandle" ∧ z.cls ≠ "java/lang/invoke/VarHandle")
    (pd : parseMethodDescriptor z.desc = some ⟨ps, r⟩) (hlen : argsL.length = ps.length) (M : Met G.l Z z zc zm zr false [] rm (.ref a :: argsL).toArray h J0 Q') (hf : rm.frames + 1 ≤ R.frames) (hW : (st.map fun v => v.category).sum = W) (hl : W + (zm + 11) + rm.locals ≤ R.locals) (hc : k + rm.cells ≤ R.cells) (hs : n + rm.slots ≤ R.slots) (hst : stk = argsL.reverse ++ .ref a :: st) (hp : pc + 3 = pc')
    (H : ∀ v h' J', Q' v h' J' → Wlk G R Z y code ret w J Q h' (k + rm.cells) (n + rm.slots) pc' Ls (v.toList ++ st)) : Wlk G R Z y code ret w J Q h k n pc Ls stk := by
  subst hp hst
  intro hG hsz T L hP
  obtain ⟨vm0, k0, X, eT, hS, hk, hZ, hown, hw, hB, hE, hF⟩ := hP
  have hZ' : Z.Warmed39 (G.s.setVm vm0).vm := hZ
  obtain ⟨cq, q1, q2⟩ := E.cell
  obtain ⟨v, vm₁, ⟨T', L', k', n'⟩, -, X', ⟨Lc, hQ, l1, y1, z1⟩, s'⟩ := X.privateBack hG.1 (y := z) hown (mvT hZ' wl) (mvT hZ' wi) (mvT hZ' wsel) (Cond.privateMethod_at (mvP hZ' wp (args := #[]))) (mvT hZ' wc) hy (backOf (W := W) (len := 3) (Q := fun v h' L => (∃ J', Q' v h' J') ∧ Fr Z.heap.size L ∧ Ext Z.heap h' ∧ h.size ≤ h'.size) (M.narrow hE) hZ' wc wz hf hl) (g := mkF G.m pc Ls (argsL.reverse ++ .ref a :: st)) rfl hsz (Steps.refl _) (a := a) (by rw [eT]; exact q1) q2 (argsL := argsL) (rest := st) (lenOf pd hlen) rfl (by show 2 * 0 + _ ≤ _; omega) (hb hG.2.1 hd) (fun _ _ => ⟨rfl, eT, hc, hs⟩)
  dsimp only [Pt.U, Pt.locs, Pt.cells, Pt.slots] at X' l1 y1 z1 s' hQ
  subst l1 y1 z1
  obtain ⟨⟨J', hQ⟩, hFc, hEc, hgr⟩ := hQ
  obtain ⟨s₂, o, hs2, rr⟩ := H v T'.heap J' hQ hG hsz T' _ ⟨vm0, k0, X', rfl, hS, Nat.le_trans hk hgr, hZ, hown, hw, hB, hEc, Fr.app hF hFc⟩
  exact ⟨s₂, o, s'.trans hs2, rr⟩
theorem Wlk.callPw {z : MethodName} {index : Nat} {zc : ByteArray} {zm : Nat} {rm : Room} {argsL : List Value} {stk : List Value} {W : Nat} {ps : List FieldType} {r : Option FieldType} {Q' : Option Value → Heap → JJ → Prop} {zr : Option FieldType} {a : Addr} (hd : decode code pc = .ok (.invokevirtual index, 3)) (wl : (Cond.methodLink y.cls index z).before a0 Z = true) (wi : (Cond.instanceMethod z).before a0 Z = true) (wsel : (Cond.selects z.cls z z).before a0 Z = true) (wp : (Cond.privateMethod z).before a0 Z = true) {C : String} (E : Exa Z h a C) (wz : (Cond.initialized z.cls).before a0 Z = true) (wc : (Cond.code z zc zm zr).before a0 Z = true) (hy : z.cls ≠ "java/lang/invoke/MethodHandle" ∧ z.cls ≠ "java/lang/invoke/VarHandle")
    (pd : parseMethodDescriptor z.desc = some ⟨ps, r⟩) (hlen : argsL.length = ps.length) (M : Met G.l Z z zc zm zr true [] rm (.ref a :: argsL).toArray h J Q') (hf : rm.frames + 1 ≤ R.frames) (hW : (st.map fun v => v.category).sum = W) (hl : W + (zm + 11) + rm.locals ≤ R.locals) (hc : k + rm.cells ≤ R.cells) (hs : n + rm.slots ≤ R.slots) (hst : stk = argsL.reverse ++ .ref a :: st) (hp : pc + 3 = pc')
    (H : ∀ v h' J', Q' v h' J' → Wlk G R Z y code ret true J' Q h' (k + rm.cells) (n + rm.slots) pc' Ls (v.toList ++ st)) : Wlk G R Z y code ret true J Q h k n pc Ls stk := by
  subst hp hst
  intro hG hsz T L hP
  obtain ⟨vm0, k0, X, eT, hS, hk, hZ, hown, hw, hB, hE, hF⟩ := hP
  have hZ' : Z.Warmed39 (G.s.setVm vm0).vm := hZ
  obtain ⟨cq, q1, q2⟩ := E.cell
  obtain ⟨v, vm₁, ⟨T', L', k', n'⟩, -, X', hS', hgr, ⟨Lc, hQ, l1, y1, z1⟩, s'⟩ := X.privateBackS hG.1 (y := z) hown (mvT hZ' wl) (mvT hZ' wi) (mvT hZ' wsel) (Cond.privateMethod_at (mvP hZ' wp (args := #[]))) (mvT hZ' wc) hy (Met.wideBack (W := W) (len := 3) M hZ' hE (hB rfl) wc wz hf hl) (g := mkF G.m pc Ls (argsL.reverse ++ .ref a :: st)) rfl hsz (Steps.refl _) (a := a) (by rw [eT]; exact q1) q2 (argsL := argsL) (rest := st) (lenOf pd hlen) rfl (by show 2 * 0 + _ ≤ _; omega) (hb hG.2.1 hd) (fun _ _ => ⟨rfl, eT, hc, hs⟩)
  dsimp only [Pt.U, Pt.locs, Pt.cells, Pt.slots] at X' l1 y1 z1 s' hQ hS' hgr
  subst l1 y1 z1
  obtain ⟨J', ⟨hQ, hBc⟩, hFc, hEc⟩ := hQ
  obtain ⟨X2, hS2, hZ2, hown2⟩ := rebS (k0 := k0) (n1 := T.heap.size) hS (by rw [eT]; exact hk) X' hS' hgr hZ' hown
  obtain ⟨s₂, o, hs2, rr⟩ := H v T'.heap J' hQ hG hsz T' _ ⟨T'.vm, T'.heap.size, X2, rfl, hS2, Nat.le_refl _, hZ2, hown2, nofun, fun _ => hBc, hEc, Fr.app hF hFc⟩
  exact ⟨s₂, o, s'.trans hs2, rr⟩
theorem Wlk.callI {z : MethodName} {index : Nat} {zc : ByteArray} {zm : Nat} {rm : Room} {argsL : List Value} {stk : List Value} {W : Nat} {ps : List FieldType} {r : Option FieldType} {Q' : Option Value → Heap → JJ → Prop} {zr : Option FieldType} {a : Addr} {x : MethodName} {C : String} {count : Nat} {J0 : JJ} (hd : decode code pc = .ok (.invokeinterface index count, 5)) (wl : (Cond.methodLink y.cls index x).before a0 Z = true) (wd : (Cond.declares x).before a0 Z = true) (wf : ∀ s : State, Z.Warmed39 s.vm → (Cond.interfaceMethod x.cls x.cls x.name x.desc).before G.args s = true) (wsel : (Cond.selects C x z).before a0 Z = true) (wi : (Cond.instanceMethod z).before a0 Z = true) (wpub : (Cond.publicMethod z).before a0 Z = true) (wun : (Cond.unhidden C x.name x.desc).before a0 Z = true) (wca : (Cond.castable C x.cls).before a0 Z = true) (E : Exa Z h a C) (wz : (Cond.initialized z.cls).before a0 Z = true) (wc : (Cond.code z zc zm zr).before a0 Z = true) (hy : x.cls ≠ "java/lang/invoke/MethodHandle" ∧ x.cls ≠ "java/lang/invoke/VarHandle")
    (pd : parseMethodDescriptor x.desc = some ⟨ps, r⟩) (hlen : argsL.length = ps.length) (M : Met G.l Z z zc zm zr false [] rm (.ref a :: argsL).toArray h J0 Q') (hf : rm.frames + 1 ≤ R.frames) (hW : (st.map fun v => v.category).sum = W) (hl : W + (zm + 11) + rm.locals ≤ R.locals) (hc : k + rm.cells ≤ R.cells) (hs : n + rm.slots ≤ R.slots) (hst : stk = argsL.reverse ++ .ref a :: st) (hp : pc + 5 = pc')
    (H : ∀ v h' J', Q' v h' J' → Wlk G R Z y code ret w J Q h' (k + rm.cells) (n + rm.slots) pc' Ls (v.toList ++ st)) : Wlk G R Z y code ret w J Q h k n pc Ls stk := by
  subst hp hst
  intro hG hsz T L hP
  obtain ⟨vm0, k0, X, eT, hS, hk, hZ, hown, hw, hB, hE, hF⟩ := hP
  have hZ' : Z.Warmed39 (G.s.setVm vm0).vm := hZ
  obtain ⟨cq, kq, qa, qb, qc⟩ := isOf hZ' eT E
  obtain ⟨v, vm₁, ⟨T', L', k', n'⟩, -, X', ⟨Lc, hQ, l1, y1, z1⟩, s'⟩ := X.interfaceBack hG.1 (xi := x) (y := z) hown (mvT hZ' wl) (mvT hZ' wd) (wf _ hZ') (mvT hZ' wsel) (mvT hZ' wi) (mvT hZ' wpub) (mvT hZ' wun) (mvT hZ' wca) hy (backOf (W := W) (len := 5) (Q := fun v h' L => (∃ J', Q' v h' J') ∧ Fr Z.heap.size L ∧ Ext Z.heap h' ∧ h.size ≤ h'.size) (M.narrow hE) hZ' wc wz hf hl) qa qb qc (g := mkF G.m pc Ls (argsL.reverse ++ .ref a :: st)) rfl hsz (Steps.refl _) (argsL := argsL) (rest := st) (lenOf pd hlen) rfl (by show 2 * 0 + _ ≤ _; omega) (hb hG.2.1 hd) (fun _ _ => ⟨rfl, eT, hc, hs⟩)
  dsimp only [Pt.U, Pt.locs, Pt.cells, Pt.slots] at X' l1 y1 z1 s' hQ
  subst l1 y1 z1
  obtain ⟨⟨J', hQ⟩, hFc, hEc, hgr⟩ := hQ
  obtain ⟨s₂, o, hs2, rr⟩ := H v T'.heap J' hQ hG hsz T' _ ⟨vm0, k0, X', rfl, hS, Nat.le_trans hk hgr, hZ, hown, hw, hB, hEc, Fr.app hF hFc⟩
  exact ⟨s₂, o, s'.trans hs2, rr⟩
theorem Wlk.callIw {z : MethodName} {index : Nat} {zc : ByteArray} {zm : Nat} {rm : Room} {argsL : List Value} {stk : List Value} {W : Nat} {ps : List FieldType} {r : Option FieldType} {Q' : Option Value → Heap → JJ → Prop} {zr : Option FieldType} {a : Addr} {x : MethodName} {C : String} {count : Nat} (hd : decode code pc = .ok (.invokeinterface index count, 5)) (wl : (Cond.methodLink y.cls index x).before a0 Z = true) (wd : (Cond.declares x).before a0 Z = true) (wf : ∀ s : State, Z.Warmed39 s.vm → (Cond.interfaceMethod x.cls x.cls x.name x.desc).before G.args s = true) (wsel : (Cond.selects C x z).before a0 Z = true) (wi : (Cond.instanceMethod z).before a0 Z = true) (wpub : (Cond.publicMethod z).before a0 Z = true) (wun : (Cond.unhidden C x.name x.desc).before a0 Z = true) (wca : (Cond.castable C x.cls).before a0 Z = true) (E : Exa Z h a C) (wz : (Cond.initialized z.cls).before a0 Z = true) (wc : (Cond.code z zc zm zr).before a0 Z = true) (hy : x.cls ≠ "java/lang/invoke/MethodHandle" ∧ x.cls ≠ "java/lang/invoke/VarHandle")
    (pd : parseMethodDescriptor x.desc = some ⟨ps, r⟩) (hlen : argsL.length = ps.length) (M : Met G.l Z z zc zm zr true [] rm (.ref a :: argsL).toArray h J Q') (hf : rm.frames + 1 ≤ R.frames) (hW : (st.map fun v => v.category).sum = W) (hl : W + (zm + 11) + rm.locals ≤ R.locals) (hc : k + rm.cells ≤ R.cells) (hs : n + rm.slots ≤ R.slots) (hst : stk = argsL.reverse ++ .ref a :: st) (hp : pc + 5 = pc')
    (H : ∀ v h' J', Q' v h' J' → Wlk G R Z y code ret true J' Q h' (k + rm.cells) (n + rm.slots) pc' Ls (v.toList ++ st)) : Wlk G R Z y code ret true J Q h k n pc Ls stk := by
  subst hp hst
  intro hG hsz T L hP
  obtain ⟨vm0, k0, X, eT, hS, hk, hZ, hown, hw, hB, hE, hF⟩ := hP
  have hZ' : Z.Warmed39 (G.s.setVm vm0).vm := hZ
  obtain ⟨cq, kq, qa, qb, qc⟩ := isOf hZ' eT E
  obtain ⟨v, vm₁, ⟨T', L', k', n'⟩, -, X', hS', hgr, ⟨Lc, hQ, l1, y1, z1⟩, s'⟩ := X.interfaceBackS hG.1 (xi := x) (y := z) hown (mvT hZ' wl) (mvT hZ' wd) (wf _ hZ') (mvT hZ' wsel) (mvT hZ' wi) (mvT hZ' wpub) (mvT hZ' wun) (mvT hZ' wca) hy (Met.wideBack (W := W) (len := 5) M hZ' hE (hB rfl) wc wz hf hl) qa qb qc (g := mkF G.m pc Ls (argsL.reverse ++ .ref a :: st)) rfl hsz (Steps.refl _) (argsL := argsL) (rest := st) (lenOf pd hlen) rfl (by show 2 * 0 + _ ≤ _; omega) (hb hG.2.1 hd) (fun _ _ => ⟨rfl, eT, hc, hs⟩)
  dsimp only [Pt.U, Pt.locs, Pt.cells, Pt.slots] at X' l1 y1 z1 s' hQ hS' hgr
  subst l1 y1 z1
  obtain ⟨J', ⟨hQ, hBc⟩, hFc, hEc⟩ := hQ
  obtain ⟨X2, hS2, hZ2, hown2⟩ := rebS (k0 := k0) (n1 := T.heap.size) hS (by rw [eT]; exact hk) X' hS' hgr hZ' hown
  obtain ⟨s₂, o, hs2, rr⟩ := H v T'.heap J' hQ hG hsz T' _ ⟨T'.vm, T'.heap.size, X2, rfl, hS2, Nat.le_refl _, hZ2, hown2, nofun, fun _ => hBc, hEc, Fr.app hF hFc⟩
  exact ⟨s₂, o, s'.trans hs2, rr⟩
/-- a constructor that a pasted law of the kit pays -/
theorem Wlk.callCB {z : MethodName} {index : Nat} {zc : ByteArray} {zm ck cs : Nat} {argsL : List Value} {stk : List Value} {W : Nat} {ps : List FieldType} {r : Option FieldType} {QQ : Option Value → Heap → List Loc → Prop} {a : Addr} (hd : decode code pc = .ok (.invokespecial index, 3)) (wl : (Cond.methodLink y.cls index z).before a0 Z = true) (wi : (Cond.instanceMethod z).before a0 Z = true) (wc : (Cond.code z zc zm none).before a0 Z = true) (hy : z.cls ≠ "java/lang/invoke/MethodHandle" ∧ z.cls ≠ "java/lang/invoke/VarHandle") (hin : z.name = "<init>")
    (pd : parseMethodDescriptor z.desc = some ⟨ps, r⟩) (hlen : argsL.length = ps.length) (hW : (st.map fun v => v.category).sum = W)
    (hK : ∀ s : State, Z.Warmed39 s.vm → Ext Z.heap h → Back G.l R G.p G.e G.below s G.args z 3 W (fun P v => v = (.ref a :: argsL).toArray ∧ P.U.heap = h ∧ P.cells + ck ≤ R.cells ∧ P.slots + cs ≤ R.slots) (fun P _ v B => ∃ L, QQ v B.U.heap L ∧ B.locs = P.locs ++ L ∧ B.cells = P.cells + ck ∧ B.slots = P.slots + cs))
    (hQ : ∀ v h' L, Ext Z.heap h → QQ v h' L → Fr Z.heap.size L ∧ Ext Z.heap h' ∧ h.size ≤ h'.size) (hc : k + ck ≤ R.cells) (hs : n + cs ≤ R.slots) (hst : stk = argsL.reverse ++ .ref a :: st) (hp : pc + 3 = pc')
    (H : ∀ v h' L, QQ v h' L → Wlk G R Z y code ret w J Q h' (k + ck) (n + cs) pc' Ls (v.toList ++ st)) : Wlk G R Z y code ret w J Q h k n pc Ls stk := by
  subst hp hst
  intro hG hsz T L hP
  obtain ⟨vm0, k0, X, eT, hS, hk, hZ, hown, hw, hB, hE, hF⟩ := hP
  have hZ' : Z.Warmed39 (G.s.setVm vm0).vm := hZ
  obtain ⟨v, vm₁, ⟨T', L', k', n'⟩, -, X', ⟨Lc, hQ1, l1, y1, z1⟩, s'⟩ := X.specialBack hG.1 (y := z) hin hown (mvT hZ' wl) (mvT hZ' wi) (mvT hZ' wc) hy (hK _ hZ' hE) (g := mkF G.m pc Ls (argsL.reverse ++ .ref a :: st)) rfl hsz (Steps.refl _) (a := a) (argsL := argsL) (rest := st) (lenOf pd hlen) rfl (by show 2 * 0 + _ ≤ _; omega) (hb hG.2.1 hd) (fun _ _ => ⟨rfl, eT, hc, hs⟩)
  dsimp only [Pt.U, Pt.locs, Pt.cells, Pt.slots] at X' l1 y1 z1 s' hQ1
  subst l1 y1 z1
  obtain ⟨hFc, hEc, hgr⟩ := hQ _ _ _ hE hQ1
  obtain ⟨s₂, o, hs2, rr⟩ := H v T'.heap Lc hQ1 hG hsz T' _ ⟨vm0, k0, X', rfl, hS, Nat.le_trans hk hgr, hZ, hown, hw, hB, hEc, Fr.app hF hFc⟩
  exact ⟨s₂, o, s'.trans hs2, rr⟩
theorem ext_keep {a : Addr} {h' : Heap} (hE : Ext Z.heap h) (g : Z.heap.size ≤ a) (K : Keep h h' [a]) : Ext Z.heap h' := (Old.keep (n0 := Z.heap.size) ⟨rfl, hE⟩ K (allS g all0)).2
/-! ## String constants (wide walks) -/
theorem Stand.rebase {p : Program} {l : Launch} {e : Env} {s : State} {m : MethodId} {args : Array Value} {below : List Frame} {meth : Method} {c : Code} {T : State} {locs : List Loc} {cells slots ck cs : Nat} (X : Stand p l e R s m args below meth c T locs cells slots) (hc : cells + ck ≤ R.cells) (hs : slots + cs ≤ R.slots) :
    Stand p l e ({ frames := R.frames, cells := ck, slots := cs, locals := R.locals } : Room) (({ s with heap := T.heap, slotsUsed := T.slotsUsed } : State).setVm T.vm) m args below meth c T [] 0 0 := by
  have Y := X.retabled X.warmed.wide
  have hroom : (({ s with heap := T.heap, slotsUsed := T.slotsUsed } : State).setVm T.vm).hasRoom e.platform ({ frames := R.frames, cells := ck, slots := cs, locals := R.locals } : Room) = true := by
    have h0 := Y.room
    have h1 := X.heapSize
    have h2 := X.used
    have h3 := X.book
    simp only [State.hasRoom, Bool.and_eq_true, decide_eq_true_eq] at h0 ⊢
    obtain ⟨⟨⟨⟨a1, a2⟩, a3⟩, a4⟩, a5⟩ := h0
    refine ⟨⟨⟨⟨a1, a2⟩, ?_⟩, ?_⟩, h3⟩
    · have a3' : s.heap.size + R.cells ≤ e.platform.maxCells := a3
      show T.heap.size + ck ≤ _
      omega
    · have a4' : s.slotsUsed + R.slots ≤ e.platform.maxSlots := a4
      show T.slotsUsed + cs ≤ _
      omega
  refine ⟨Y.admits, Y.cas, Y.clock, Y.frames, hroom, Y.hears, Y.method, Y.code, X.here, X.tail, State.WarmedH.refl T, X.limits, X.bytes, ?_⟩
  refine ⟨?_, Nat.le_refl _, Nat.le_refl _, ?_, ?_, fun a cl ha => ⟨cl, ha, rfl, rfl, fun _ _ => rfl⟩⟩
  · have q := Y.same.1
    exact q
  · show T.slotsUsed = T.slotsUsed + ((T.heap.toList.drop T.heap.size).map (·.slots.size)).sum
    rw [List.drop_eq_nil_of_le (Nat.le_of_eq Array.length_toList)]
    rfl
  · show ((T.heap.toList.drop T.heap.size).map (·.slots.size)).sum ≤ 0
    rw [List.drop_eq_nil_of_le (Nat.le_of_eq Array.length_toList)]
    exact Nat.le_refl _
theorem Stand.unbase {p : Program} {l : Launch} {e : Env} {s : State} {m : MethodId} {args : Array Value} {below : List Frame} {meth : Method} {c : Code} {T T' : State} {R' : Room} {locs l₂ : List Loc} {cells slots c₂ n₂ k1 : Nat} (X : Stand p l e R s m args below meth c T locs cells slots)
    (X' : Stand p l e R' (({ s with heap := T.heap, slotsUsed := T.slotsUsed } : State).setVm T'.vm) m args below meth c T' l₂ c₂ n₂) (hS : (({ s with heap := T.heap, slotsUsed := T.slotsUsed } : State).setVm T.vm).Since T'.vm k1) (hk : k1 ≤ T'.heap.size) :
    Stand p l e R (s.setVm T'.vm) m args below meth c T' (locs ++ l₂) (cells + c₂) (slots + n₂) ∧ s.Since T'.vm T'.heap.size ∧ T.Warmed39 T'.vm := by
  have hW : T.Warmed39 T'.vm := hS.1
  obtain ⟨q1, q2⟩ := X.movedW (T₂ := T') X'.here X'.tail (X'.limits.trans X.limits.symm) (X'.bytes.trans X.bytes.symm) hW (hS.2.mono hk) (by
    obtain ⟨b1, b2, b3, b4, b5, b6⟩ := X'.same
    refine ⟨?_, b2, b3, b4, b5, b6⟩
    have e1 := X.same.1
    have e2 : T.setFrames T'.frames = ({ s.setFrames T'.frames with heap := T.heap, slotsUsed := T.slotsUsed } : State).setVm T.vm := by
      have e3 : (T.setVm s.vm).setFrames T'.frames = ({ s.setFrames T.frames with heap := T.heap, slotsUsed := T.slotsUsed } : State).setFrames T'.frames := congrArg (fun u : State => u.setFrames T'.frames) e1
      have e4 : ({ s.setFrames T.frames with heap := T.heap, slotsUsed := T.slotsUsed } : State).setFrames T'.frames = ({ s.setFrames T'.frames with heap := T.heap, slotsUsed := T.slotsUsed } : State) := by
        have := State.setFrames_setFrames s T.frames T'.frames
        show ({ (s.setFrames T.frames).setFrames T'.frames with heap := T.heap, slotsUsed := T.slotsUsed } : State) = _
        rw [this]
      have e5 := congrArg (fun u : State => u.setVm T.vm) (e3.trans e4)
      exact e5
    have b1' : T'.setVm T'.vm = ({ ((({ s with heap := T.heap, slotsUsed := T.slotsUsed } : State).setVm T'.vm).setFrames T'.frames) with heap := T'.heap, slotsUsed := T'.slotsUsed } : State) := b1
    have b2' := congrArg (fun u : State => u.setVm T.vm) b1'
    show T'.setVm T.vm = ({ T.setFrames T'.frames with heap := T'.heap, slotsUsed := T'.slotsUsed } : State)
    rw [e2]
    exact b2')
  exact ⟨q1, q2, hW⟩
/-- a constant's first load: what is pushed is a Latin-1 String with the text's bytes -/
theorem Wlk.ldcNew {index nn : Nat} {text : String} {Ts : List String} {Lt : List (String × Nat × Addr)} {vs : List Value} {z : Int32} (hd : decode code pc = .ok (.ldc index, 2)) (wl : (Cond.stringLink y.cls index text).before a0 Z = true) (wS : ∀ a ∈ Bundle.stringAtoms, a.before a0 Z = true) (hnot : text ∉ Ts) (hh : Jvm.Lit.constHeld Z y.cls index) (hcw : Jvm.Lit.compactW.before a0 Z = true)
    (ht : (∀ c ∈ text.toList, c.toNat < 256) ∧ text.toList.map (fun c => Value.int (Jvm.Lit.byteI c.toNat.toUInt16)) = vs) (hz : ¬ z < 0) (hl : z.toNatClampNeg = vs.length) (hn : 4 * text.toList.length ≤ nn) (hbig : nn ≤ 536870912) (hc : k + 2 ≤ R.cells) (hs : n + (nn + 4) ≤ R.slots) (hp : pc + 2 = pc')
    (H : ∀ (a b : Addr) (kb : ClassId) (h' : Heap), Ext h h' → Exa Z h' a "java/lang/String" → Fld Z h' a "java/lang/String" "coder" "B" (.int 0) → Fld Z h' a "java/lang/String" "value" "[B" (.ref b) → Arv Z h' b kb .byte z vs (.int 0) → Wlk G R Z y code ret true (true, text :: Ts, (y.cls, index, a) :: Lt) Q h' (k + 2) (n + (nn + 4)) pc' Ls (.ref a :: st)) :
    Wlk G R Z y code ret true (true, Ts, Lt) Q h k n pc Ls st := by
  subst hp
  intro hG hsz T L hP
  obtain ⟨vm0, k0, X, eT, hS, hk, hZ, hown, hw, hB, hE, hF⟩ := hP
  have hWT : (G.s.setVm vm0).WarmedH T.vm := X.warmed
  have hBT : Books Z T.vm (true, Ts, Lt) := Books.warm (s := G.s) (hB rfl) hWT
  have hZT : Z.Warmed39 T.vm := State.Warmed39.trans (t := G.s.setVm vm0) hZ hWT.wide
  have hownT : T.vm.findClass y.cls = some G.m.cls := by rw [hWT.alike.findClass]; exact hown
  have Y := Stand.rebase (ck := 2) (cs := nn + 4) X hc hs
  obtain ⟨a, T', h', k1, b, kb, X', e', E', hS', hk', hZ', hown', A1, A2, A3, A4, -, -, I', Lit', s'⟩ := ldcSVL (s := ({ G.s.setVm vm0 with heap := T.heap, slotsUsed := T.slotsUsed } : State).setVm T.vm) (vm0 := T.vm) (g := mkF G.m pc Ls st) Y hG.1 hZT hownT wl wS eT (k0 := 0) ((State.WarmedH.refl (({ G.s.setVm vm0 with heap := T.heap, slotsUsed := T.slotsUsed } : State).setVm T.vm)).since 0) (Nat.zero_le _) (Fr.nil _) (fun b cl q => by show T.heap[b]? = some cl; rw [eT]; exact hE.2 b cl q) (hBT rfl).1 hnot hh hcw ht hz hl rfl (hb hG.2.1 hd) hn hbig (by show 0 + 2 ≤ 2; omega) (by show 0 + (nn + 4) ≤ nn + 4; omega)
  obtain ⟨X2, hS2, hWT'⟩ := Stand.unbase X X' hS' (by rw [e']; exact hk')
  have eL : L ++ [] = L := List.append_nil L
  rw [eL] at X2
  have X3 := X2.mono (cells' := k + 2) (slots' := n + (nn + 4)) (by omega) (by omega)
  have hEh : Ext Z.heap h' := ⟨Nat.le_trans hE.1 E'.1, fun x cl q => E'.2 x cl (hE.2 x cl q)⟩
  have hB' : Books Z T'.vm (true, text :: Ts, (y.cls, index, a) :: Lt) := fun _ => ⟨I', fun x hx => by
    rcases List.mem_cons.mp hx with rfl | hx
    · exact Lit'
    · exact Lit.stays (s := T) ((hBT rfl).2 x hx) hWT'⟩
  obtain ⟨s₂, o, hs2, rr⟩ := H a b kb h' E' A1 A2 A3 A4 hG hsz T' L ⟨T'.vm, T'.heap.size, X3, e', hS.trans hS2 (by rw [e']; exact Nat.le_trans hk E'.1), by rw [e']; exact Nat.le_refl _, hZ', hown', nofun, fun _ => hB', hEh, hF⟩
  exact ⟨s₂, o, s' _ hs2, rr⟩
/-- a load of an entry that is known to be resolved -/
theorem Wlk.ldcOld {index : Nat} {text : String} {Ts : List String} {Lt : List (String × Nat × Addr)} {a : Addr} (hd : decode code pc = .ok (.ldc index, 2)) (wl : (Cond.stringLink y.cls index text).before a0 Z = true) (hin : (y.cls, index, a) ∈ Lt) (hp : pc + 2 = pc')
    (H : Wlk G R Z y code ret true (true, Ts, Lt) Q h k n pc' Ls (.ref a :: st)) : Wlk G R Z y code ret true (true, Ts, Lt) Q h k n pc Ls st := by
  subst hp
  intro hG hsz T L hP
  obtain ⟨s₂, o, hs, r⟩ := H hG hsz T L hP
  obtain ⟨vm0, k0, X, eT, hS, hk, hZ, hown, hw, hB, hE, hF⟩ := hP
  exact ⟨s₂, o, ldcAgain X hG.1 hZ hown wl ((hB rfl rfl).2 _ hin) (g := mkF G.m pc Ls st) rfl (hb hG.2.1 hd) _ hs, r⟩
/-- a load of which nothing is known but that it pushes a reference -/
theorem Wlk.ldcAny {index nn : Nat} {text : String} {J' : JJ} (hJ : J'.1 = false) (hd : decode code pc = .ok (.ldc index, 2)) (wl : (Cond.stringLink y.cls index text).before a0 Z = true) (wS : ∀ a ∈ Bundle.stringAtoms, a.before a0 Z = true) (hn : 4 * text.toList.length ≤ nn) (hbig : nn ≤ 536870912) (hc : k + 2 ≤ R.cells) (hs : n + (nn + 4) ≤ R.slots) (hp : pc + 2 = pc')
    (H : ∀ (a : Addr) (h' : Heap), Ext h h' → Wlk G R Z y code ret true J' Q h' (k + 2) (n + (nn + 4)) pc' Ls (.ref a :: st)) : Wlk G R Z y code ret true J Q h k n pc Ls st := by
  subst hp
  intro hG hsz T L hP
  obtain ⟨vm0, k0, X, eT, hS, hk, hZ, hown, hw, hB, hE, hF⟩ := hP
  obtain ⟨a, T', h', k1, X', e', E', hS', hk', hZ', hown', s'⟩ := ldcS X hG.1 hZ hown wl wS eT hS hk (g := mkF G.m pc Ls st) rfl (hb hG.2.1 hd) hn hbig hc hs
  have hEh : Ext Z.heap h' := ⟨Nat.le_trans hE.1 E'.1, fun x cl q => E'.2 x cl (hE.2 x cl q)⟩
  obtain ⟨s₂, o, hs2, rr⟩ := H a h' E' hG hsz T' L ⟨T'.vm, k1, X', e', hS', hk', hZ', hown', nofun, fun _ q => (by rw [hJ] at q; cases q), hEh, hF⟩
  exact ⟨s₂, o, s' _ hs2, rr⟩
theorem Wlk.cloneV {index W cap : Nat} {ad : String} {a : Addr} {kc : ClassId} {ty : FieldType} {z : Int32} {vs : List Value} {d : Value} (hd : decode code pc = .ok (.invokevirtual index, 3)) (w1 : (Cond.methodLink y.cls index ⟨ad, "clone", "()Ljava/lang/Object;"⟩).before a0 Z = true) (w2 : (Cond.sameMethod ad "java/lang/Object" "clone" "()Ljava/lang/Object;").before a0 Z = true) (w3 : (Cond.native ⟨"java/lang/Object", "clone", "()Ljava/lang/Object;"⟩).before a0 Z = true)
    (w4 : (Cond.instanceMethod ⟨"java/lang/Object", "clone", "()Ljava/lang/Object;"⟩).before a0 Z = true) (w5 : (Cond.selects ad ⟨ad, "clone", "()Ljava/lang/Object;"⟩ ⟨"java/lang/Object", "clone", "()Ljava/lang/Object;"⟩).before a0 Z = true) (w6 : (Cond.castable ad "java/lang/Cloneable").before a0 Z = true)
    (A : Arv Z h a kc ty z vs d) (E : Exa Z h a ad) (F : ∀ cl : Cell, h[a]? = some cl → FitC Z cl) (hf : 1 ≤ R.frames) (hW : (st.map fun v => v.category).sum = W) (hl : W + 14 ≤ R.locals) (hcap : z.toNatClampNeg ≤ cap) (hc : k + 1 ≤ R.cells) (hs : n + cap ≤ R.slots) (hp : pc + 3 = pc')
    (H : ∀ (b : Addr) (h' : Heap), h.size ≤ b → Z.heap.size ≤ b → Ext h h' → Arv Z h' b kc ty z vs d → Exa Z h' b ad → Wlk G R Z y code ret w J Q h' (k + 1) (n + cap) pc' Ls (.ref b :: st)) : Wlk G R Z y code ret w J Q h k n pc Ls (.ref a :: st) := by
  subst hp
  obtain ⟨cl, Ar, q1, S, N, HH, GG⟩ := A
  refine Wlk.moves (P := fun h' => Z.heap.size ≤ h.size ∧ Ext h h' ∧ Arv Z h' h.size kc ty z vs d ∧ Exa Z h' h.size ad) (st' := .ref h.size :: st) rfl (fun vm0 T L hG hsz X eT hZ hown hE hF => ?_) (fun h' q => H h.size h' (Nat.le_refl _) q.1 q.2.1 q.2.2.1 q.2.2.2)
  obtain ⟨T', h', X', e', E', A', D', s'⟩ := Jvm.RoadKit.cloneA X hG.1 hZ hown w1 w2 w3 w4 w5 w6 eT Ar E (F cl Ar.1) (g := mkF G.m pc Ls (.ref a :: st)) rfl hsz rfl (hb hG.2.1 hd) hf (W := W) (cap := cap) (by show 2 * 0 + _ ≤ _; omega) hl (by rw [S]; exact hcap) hc hs
  exact ⟨T', h', L, X', e', E'.1, ⟨Nat.le_trans hE.1 E'.1, fun a c q => E'.2 a c (hE.2 a c q)⟩, hF, ⟨hE.1, E', ⟨cloneOf cl, A', q1, S, N, HH, GG⟩, D'⟩, s'⟩
end Walk
end Jvm.Own
namespace Jvm.Own
open Sem ClassFile Op Lib Jvm.Stand Jvm.Free Jvm.LawKit Jvm.RoadKit
/-! ## numbers -/
theorem i32_toInt {i : Nat} (h : i < 2147483648) : (Int32.ofNat i).toInt = i := Int32.toInt_ofNat_small (by omega)
theorem z32 : (0 : Int32).toInt = 0 := by decide
theorem i32_nn {i : Nat} (h : i < 2147483648) : ¬ Int32.ofNat i < 0 := by
  rw [Int32.lt_iff_toInt_lt, i32_toInt h, z32]; omega
theorem i32_cl {i : Nat} (h : i < 2147483648) : (Int32.ofNat i).toNatClampNeg = i := by
  show (Int32.ofNat i).toInt.toNat = i
  rw [i32_toInt h]; rfl
theorem i32_lt {i j : Nat} (hi : i < 2147483648) (hj : j < 2147483648) : Int32.ofNat i < Int32.ofNat j ↔ i < j := by
  rw [Int32.lt_iff_toInt_lt, i32_toInt hi, i32_toInt hj]; omega
theorem i32_eq {i j : Nat} (hi : i < 2147483648) (hj : j < 2147483648) : Int32.ofNat i = Int32.ofNat j ↔ i = j := by
  rw [← Int32.toInt_inj, i32_toInt hi, i32_toInt hj]; omega
theorem i32_add (i j : Nat) : Int32.ofNat i + Int32.ofNat j = Int32.ofNat (i + j) := (Int32.ofNat_add i j).symm
theorem i32_succ (i : Nat) : Int32.ofNat i + 1 = Int32.ofNat (i + 1) := i32_add i 1
/-! ## what a String's bytes are -/
/-- a char's byte in a Latin-1 String -/
def bL (c : Int32) : Int32 := c.toInt8.toInt32
/-- .. its second byte in a UTF-16 one -/
def bH (c : Int32) : Int32 := (c >>> 8).toInt8.toInt32
theorem nar_bL (c : Int32) : nar .byte (bL c) = bL c := by simp [nar, bL]
theorem nar_bH (c : Int32) : nar .byte (bH c) = bH c := by simp [nar, bH]
def vL (cs : List Int32) : List Value := cs.map fun c => .int (bL c)
def vU : List Int32 → List Value
  | [] => []
  | c :: cs => .int (bL c) :: .int (bH c) :: vU cs
def vC (cs : List Int32) : List Value := cs.map Value.int
/-- the chars ahead of the first that is above 255 -/
def lat (cs : List Int32) : List Int32 := cs.takeWhile fun c => decide (¬ (255 : Int32) < c)
theorem lat_app {pre rest : List Int32} (h : ∀ c ∈ pre, ¬ (255 : Int32) < c) : lat (pre ++ rest) = pre ++ lat rest := by
  unfold lat
  rw [List.takeWhile_append_of_pos (fun c hc => decide_eq_true (h c hc))]
theorem lat_all {cs : List Int32} (h : ∀ c ∈ cs, ¬ (255 : Int32) < c) : lat cs = cs := by
  have := lat_app (rest := []) h
  simpa [lat] using this
theorem lat_stop {c : Int32} {rest : List Int32} (h : (255 : Int32) < c) : lat (c :: rest) = [] := by simp [lat, h]
theorem lat_mem : ∀ {cs : List Int32}, lat cs = cs → ∀ c ∈ cs, ¬ (255 : Int32) < c
  | [], _, c, hc => nomatch hc
  | x :: cs, h, c, hc => by
    by_cases hx : (255 : Int32) < x
    · rw [lat_stop hx] at h
      cases h
    · have h2 : lat (x :: cs) = x :: lat cs := by unfold lat; rw [List.takeWhile_cons, if_pos (decide_eq_true hx)]
      rw [h2] at h
      injection h with _ h3
      rcases List.mem_cons.mp hc with rfl | hc
      · exact hx
      · exact lat_mem h3 c hc
end Jvm.Own
namespace Jvm.Own
open Sem ClassFile Op Lib Jvm.Stand Jvm.Free Jvm.LawKit Jvm.RoadKit
theorem set_vL (pre : List Int32) (c : Int32) : (vL pre ++ List.replicate 1 (Value.int 0)).set pre.length (Value.int (nar .byte c.toInt8.toInt32)) = vL (pre ++ [c]) := by
  have e : (vL pre).length = pre.length := by simp [vL]
  rw [← e, List.set_append_right _ _ (Nat.le_refl _)]
  simp [vL, nar, bL]
end Jvm.Own
namespace Jvm.Own
open Sem ClassFile Op Lib Jvm.Stand Jvm.Free Jvm.LawKit Jvm.RoadKit
/-- a Latin-1 String at s, its bytes at t, that spells cs -/
def StrL (Z : State) (h : Heap) (s t : Addr) (cs : List Int32) : Prop :=
  Exa Z h s "java/lang/String" ∧ Fld Z h s "java/lang/String" "value" "[B" (.ref t) ∧ Fld Z h s "java/lang/String" "coder" "B" (.int 0) ∧ ∃ kb, Arv Z h t kb .byte (Int32.ofNat cs.length) (vL cs) (.int 0)
theorem StrL.ext {Z : State} {h h' : Heap} {s t : Addr} {cs : List Int32} (S : StrL Z h s t cs) (E : Ext h h') : StrL Z h' s t cs := by
  obtain ⟨a, b, c, kb, d⟩ := S
  exact ⟨a.ext E, b.ext E, c.ext E, kb, d.ext E⟩
theorem StrL.keep {Z : State} {h h' : Heap} {s t : Addr} {cs : List Int32} {ws : List Addr} (S : StrL Z h s t cs) (K : Keep h h' ws) (q1 : s ∉ ws) (q2 : t ∉ ws) : StrL Z h' s t cs := by
  obtain ⟨a, b, c, kb, d⟩ := S
  exact ⟨a.keep K, b.keep K q1, c.keep K q1, kb, d.keep K q2⟩
theorem StrL.wr {Z : State} {h h' : Heap} {s t a : Addr} {cs : List Int32} {sl : Nat} {v : Value} (S : StrL Z h s t cs) (W : Wr h h' a sl v) (q1 : s ≠ a) (q2 : t ≠ a) : StrL Z h' s t cs := by
  obtain ⟨x, b, c, kb, d⟩ := S
  exact ⟨x.wr W, b.other W (Or.inl q1), c.other W (Or.inl q1), kb, d.other W q2⟩
theorem StrL.lt {Z : State} {h : Heap} {s t : Addr} {cs : List Int32} (S : StrL Z h s t cs) : s < h.size := S.1.lt
theorem StrL.ltT {Z : State} {h : Heap} {s t : Addr} {cs : List Int32} (S : StrL Z h s t cs) : t < h.size := by obtain ⟨-, -, -, kb, d⟩ := S; exact d.lt
end Jvm.Own
namespace Jvm.Own
open Sem ClassFile Op Lib Jvm.Stand Jvm.Free Jvm.LawKit Jvm.RoadKit
theorem sto_arv {Z : State} {h : Heap} {a x : Addr} {k : ClassId} {ty : FieldType} {z : Int32} {vs : List Value} {d : Value} {C : String} (A : Arv Z h a k ty z vs d) (O : Ovr Z k C) (I : Ins Z h x C true) : Sto Z h a (.ref x) := by
  obtain ⟨c, Ar, q, -⟩ := A
  exact Sto.ofV Ar q O I
end Jvm.Own
namespace Jvm.Own
open Sem ClassFile Op Lib Jvm.Stand Jvm.Free Jvm.LawKit Jvm.RoadKit
/-! ## UTF-16 -/
theorem nar_char {c : Int32} (h0 : ¬ c < 0) (h1 : ¬ (65535 : Int32) < c) : nar .char c = c := by
  have e := c_i2c c
  have h7 : (65535 : Int32).toInt = 65535 := by decide
  rw [Int32.lt_iff_toInt_lt, z32] at h0
  rw [Int32.lt_iff_toInt_lt, h7] at h1
  apply Int32.toInt_inj.mp
  show c.toUInt32.toUInt16.toUInt32.toInt32.toInt = c.toInt
  omega
theorem vU_len (cs : List Int32) : (vU cs).length = 2 * cs.length := by
  induction cs with
  | nil => rfl
  | cons c cs ih => simp only [vU, List.length_cons, ih]; omega
theorem vU_app (pre : List Int32) (c : Int32) : vU (pre ++ [c]) = vU pre ++ [.int (bL c), .int (bH c)] := by
  induction pre with
  | nil => rfl
  | cons x pre ih => simp only [List.cons_append, vU, ih]
theorem vU_set (pre : List Int32) (c : Int32) : ((vU pre ++ List.replicate 2 (Value.int 0)).set (2 * pre.length) (.int (bL c))).set (2 * pre.length + 1) (.int (bH c)) = vU (pre ++ [c]) := by
  rw [vU_app]
  have e : (vU pre).length = 2 * pre.length := vU_len pre
  rw [← e, List.set_append_right _ _ (Nat.le_refl _), List.set_append_right _ _ (Nat.le_succ _)]
  simp
theorem vU_get : ∀ {cs : List Int32} {i : Nat} {c : Int32}, cs[i]? = some c → (vU cs)[2 * i]? = some (.int (bL c)) ∧ (vU cs)[2 * i + 1]? = some (.int (bH c))
  | [], i, c, h => by simp at h
  | x :: cs, 0, c, h => by
    simp only [List.getElem?_cons_zero, Option.some.injEq] at h
    subst h
    exact ⟨rfl, rfl⟩
  | x :: cs, i + 1, c, h => by
    have h' : cs[i]? = some c := by simpa using h
    have q := vU_get h'
    have e1 : 2 * (i + 1) = (2 * i) + 1 + 1 := by omega
    rw [e1]
    simp only [vU, List.getElem?_cons_succ]
    exact q
theorem i32_shl1 (i : Nat) (h : i < 1073741823) : Int32.ofNat i <<< ((1 : Int32) &&& 31) = Int32.ofNat (2 * i) := by
  apply Int32.toInt_inj.mp
  have e := c_ishl (Int32.ofNat i) 1 1 (by decide)
  have r := rng32 (Int32.ofNat i <<< ((1 : Int32) &&& 31))
  rw [i32_toInt (by omega)] at e
  rw [i32_toInt (by omega)]
  omega
theorem u_lo (c : Int32) : nar .byte ((c >>> ((0 : Int32) &&& 31)).toInt8.toInt32) = bL c := by
  have e : c >>> ((0 : Int32) &&& 31) = c := by
    apply Int32.toInt_inj.mp
    rw [c_ishr c 0 0 (by decide)]
    simp
  rw [e]
  exact nar_bL c
theorem u_hi (c : Int32) : nar .byte ((c >>> ((8 : Int32) &&& 31)).toInt8.toInt32) = bH c := by
  have e : c >>> ((8 : Int32) &&& 31) = c >>> 8 := rfl
  rw [e]
  exact nar_bH c
theorem m255 (x : Int32) : (x &&& (255 : Int32)).toInt = x.toInt % 256 := by
  have := c_mask x 255 8 (by omega) (by decide)
  simpa using this
theorem u_get {c : Int32} (h0 : ¬ c < 0) (h1 : ¬ (65535 : Int32) < c) :
    nar .char ((((bL c &&& (255 : Int32)) <<< ((0 : Int32) &&& 31)) ||| ((bH c &&& (255 : Int32)) <<< ((8 : Int32) &&& 31))).toUInt32.toUInt16.toUInt32.toInt32) = c := by
  have h7 : (65535 : Int32).toInt = 65535 := by decide
  rw [Int32.lt_iff_toInt_lt, z32] at h0
  rw [Int32.lt_iff_toInt_lt, h7] at h1
  apply Int32.toInt_inj.mp
  obtain ⟨x, hx⟩ : ∃ x, x = (bL c &&& (255 : Int32)) <<< ((0 : Int32) &&& 31) := ⟨_, rfl⟩
  obtain ⟨z, hz⟩ : ∃ z, z = (bH c &&& (255 : Int32)) <<< ((8 : Int32) &&& 31) := ⟨_, rfl⟩
  rw [← hx, ← hz]
  have b1 := c_i2b c
  have b2 := c_i2b (c >>> 8)
  have b3 : (c >>> (8 : Int32)).toInt = c.toInt / 256 := c_ishr c 8 8 (by decide)
  have ex : x.toInt = c.toInt % 256 := by
    have e1 := c_ishl (bL c &&& 255) 0 0 (by decide)
    have e2 := m255 (bL c)
    have e3 : (bL c).toInt = c.toInt8.toInt32.toInt := rfl
    have r := rng32 x
    rw [← hx] at e1
    omega
  have ez : z.toInt = (c.toInt / 256) * 256 := by
    have e1 := c_ishl (bH c &&& 255) 8 8 (by decide)
    have e2 := m255 (bH c)
    have e3 : (bH c).toInt = (c >>> 8).toInt8.toInt32.toInt := rfl
    have r := rng32 z
    rw [← hz] at e1
    omega
  have eo := c_or' x z 8 (by omega) 256 (by decide) (by omega) (by omega) (by omega)
  have ro := rng32 (x ||| z)
  have e1 := c_i2c (x ||| z)
  have e2 := c_i2c ((x ||| z).toUInt32.toUInt16.toUInt32.toInt32)
  show ((x ||| z).toUInt32.toUInt16.toUInt32.toInt32).toUInt32.toUInt16.toUInt32.toInt32.toInt = c.toInt
  omega
theorem lat_next : ∀ {cs : List Int32}, ¬ lat cs = cs → ∃ c rest, cs = lat cs ++ c :: rest ∧ (255 : Int32) < c
  | [], h => absurd rfl h
  | x :: cs, h => by
    by_cases hx : (255 : Int32) < x
    · exact ⟨x, cs, by rw [lat_stop hx]; rfl, hx⟩
    · have h2 : lat (x :: cs) = x :: lat cs := by unfold lat; rw [List.takeWhile_cons, if_pos (decide_eq_true hx)]
      rw [h2] at h ⊢
      obtain ⟨c, rest, e, hc⟩ := lat_next (cs := cs) (fun q => h (by rw [q]))
      exact ⟨c, rest, by rw [List.cons_append, ← e], hc⟩
theorem cod1 {n : Nat} (h0 : 0 < n) (h1 : n < 1000000) : nar .byte (((((Int32.ofNat n) - (Int32.ofNat (2 * n)))).toUInt32 >>> ((31 : Int32) &&& 31).toUInt32).toInt32.toInt8.toInt32) = 1 := by
  have e1 := c_isub (Int32.ofNat n) (Int32.ofNat (2 * n))
  rw [i32_toInt (by omega), i32_toInt (by omega)] at e1
  have r := rng32 (Int32.ofNat n - Int32.ofNat (2 * n))
  have e2 := c_iushr (Int32.ofNat n - Int32.ofNat (2 * n)) 31 31 (by decide) (by omega)
  have e3 : (((Int32.ofNat n - Int32.ofNat (2 * n)).toUInt32 >>> ((31 : Int32) &&& 31).toUInt32).toInt32) = 1 := by
    apply Int32.toInt_inj.mp
    rw [e2, show (1 : Int32).toInt = 1 by decide]
    omega
  rw [e3]
  decide
/-- a UTF-16 String at s, its bytes at t, that spells cs -/
def StrU (Z : State) (h : Heap) (s t : Addr) (cs : List Int32) : Prop :=
  Exa Z h s "java/lang/String" ∧ Fld Z h s "java/lang/String" "value" "[B" (.ref t) ∧ Fld Z h s "java/lang/String" "coder" "B" (.int 1) ∧ ∃ kb, Arv Z h t kb .byte (Int32.ofNat (2 * cs.length)) (vU cs) (.int 0)
/-- a String of any chars, as String's own constructor lays it -/
def StrA (Z : State) (h : Heap) (s t : Addr) (cs : List Int32) : Prop := (lat cs = cs ∧ StrL Z h s t cs) ∨ (¬ lat cs = cs ∧ StrU Z h s t cs)
theorem StrA.exa {Z : State} {h : Heap} {s t : Addr} {cs : List Int32} (S : StrA Z h s t cs) : Exa Z h s "java/lang/String" := S.elim (fun q => q.2.1) (fun q => q.2.1)
theorem StrA.ext {Z : State} {h h' : Heap} {s t : Addr} {cs : List Int32} (S : StrA Z h s t cs) (E : Ext h h') : StrA Z h' s t cs := by
  rcases S with ⟨q, S⟩ | ⟨q, a, b, c, kb, d⟩
  · exact Or.inl ⟨q, S.ext E⟩
  · exact Or.inr ⟨q, a.ext E, b.ext E, c.ext E, kb, d.ext E⟩
theorem StrA.keep {Z : State} {h h' : Heap} {s t : Addr} {cs : List Int32} {ws : List Addr} (S : StrA Z h s t cs) (K : Keep h h' ws) (q1 : s ∉ ws) (q2 : t ∉ ws) : StrA Z h' s t cs := by
  rcases S with ⟨q, S⟩ | ⟨q, a, b, c, kb, d⟩
  · exact Or.inl ⟨q, S.keep K q1 q2⟩
  · exact Or.inr ⟨q, a.keep K, b.keep K q1, c.keep K q1, kb, d.keep K q2⟩
theorem StrA.wr {Z : State} {h h' : Heap} {s t a : Addr} {cs : List Int32} {sl : Nat} {v : Value} (S : StrA Z h s t cs) (W : Wr h h' a sl v) (q1 : s ≠ a) (q2 : t ≠ a) : StrA Z h' s t cs := by
  rcases S with ⟨q, S⟩ | ⟨q, x, b, c, kb, d⟩
  · exact Or.inl ⟨q, S.wr W q1 q2⟩
  · exact Or.inr ⟨q, x.wr W, b.other W (Or.inl q1), c.other W (Or.inl q1), kb, d.other W q2⟩
theorem StrA.lt {Z : State} {h : Heap} {s t : Addr} {cs : List Int32} (S : StrA Z h s t cs) : s < h.size := S.exa.lt
theorem StrA.ltT {Z : State} {h : Heap} {s t : Addr} {cs : List Int32} (S : StrA Z h s t cs) : t < h.size := by
  rcases S with ⟨q, S⟩ | ⟨q, a, b, c, kb, d⟩
  · exact S.ltT
  · exact d.lt
theorem StrL.any {Z : State} {h : Heap} {s t : Addr} {cs : List Int32} (S : StrL Z h s t cs) (q : lat cs = cs) : StrA Z h s t cs := Or.inl ⟨q, S⟩
/-! ## bytes tell the chars -/
theorem bL_inj {c d : Int32} (h0 : ¬ c < 0) (h1 : ¬ (255 : Int32) < c) (g0 : ¬ d < 0) (g1 : ¬ (255 : Int32) < d) (e : bL c = bL d) : c = d := by
  have h7 : (255 : Int32).toInt = 255 := by decide
  rw [Int32.lt_iff_toInt_lt, z32] at h0 g0
  rw [Int32.lt_iff_toInt_lt, h7] at h1 g1
  have b1 := c_i2b c
  have b2 := c_i2b d
  have e' : c.toInt8.toInt32.toInt = d.toInt8.toInt32.toInt := congrArg Int32.toInt e
  apply Int32.toInt_inj.mp
  omega
theorem vL_inj : ∀ {cs ds : List Int32}, (∀ c ∈ cs, ¬ c < 0 ∧ ¬ (255 : Int32) < c) → (∀ c ∈ ds, ¬ c < 0 ∧ ¬ (255 : Int32) < c) → cs.map bL = ds.map bL → cs = ds
  | [], [], _, _, _ => rfl
  | [], d :: ds, _, _, e => by cases e
  | c :: cs, [], _, _, e => by cases e
  | c :: cs, d :: ds, h, g, e => by
    simp only [List.map_cons, List.cons.injEq] at e
    have q1 := h c (List.mem_cons_self ..)
    have q2 := g d (List.mem_cons_self ..)
    rw [bL_inj q1.1 q1.2 q2.1 q2.2 e.1, vL_inj (fun x hx => h x (List.mem_cons_of_mem _ hx)) (fun x hx => g x (List.mem_cons_of_mem _ hx)) e.2]
theorem vL_vC (cs : List Int32) : vL cs = vC (cs.map bL) := by simp [vL, vC]
theorem vL_map (cs : List Int32) : vL cs = (cs.map bL).map Value.int := by simp [vL]
theorem Fld.fun1 {Z : State} {h : Heap} {a : Addr} {C n d : String} {v w : Value} (F : Fld Z h a C n d v) (G : Fld Z h a C n d w) : v = w := Classical.byContradiction fun q => Fld.ne F G q rfl
/-- one object, two readings: one text -/
theorem StrL.inj {Z : State} {h : Heap} {s t t' : Addr} {cs ds : List Int32} (S : StrL Z h s t cs) (S' : StrL Z h s t' ds) (h1 : cs.length < 1000000) (h2 : ds.length < 1000000) : cs.map bL = ds.map bL := by
  obtain ⟨-, v, -, kb, A⟩ := S
  obtain ⟨-, v', -, kb', A'⟩ := S'
  have e := Fld.fun1 v v'
  injection e with e
  subst e
  obtain ⟨c, Ar, -, sz, -, H, -⟩ := A
  obtain ⟨c', Ar', -, sz', -, H', -⟩ := A'
  cases Ar.1.symm.trans Ar'.1
  rw [sz] at sz'
  rw [i32_cl (by omega), i32_cl (by omega)] at sz'
  rw [i32_cl (by omega)] at sz
  apply List.ext_getElem
  · simpa using sz'
  · intro i hi hi'
    have hc : i < cs.length := by simpa using hi
    have hd : i < ds.length := by omega
    have q := (H i (by omega)).symm.trans (H' i (by omega))
    simp only [vL, List.getD_eq_getElem?_getD, List.getElem?_map] at q
    simp [hc, hd] at q
    simpa using q
end Jvm.Own
namespace Jvm.Own
open Sem ClassFile Op Lib Jvm.Stand Jvm.Free Jvm.LawKit Jvm.RoadKit
theorem lat_le (cs : List Int32) : (lat cs).length ≤ cs.length := (List.takeWhile_prefix _).length_le
theorem lat_full {cs : List Int32} (h : (lat cs).length = cs.length) : lat cs = cs := (List.takeWhile_prefix _).eq_of_length h
theorem lat_at {cs rest : List Int32} {c : Int32} (e : cs = lat cs ++ c :: rest) : cs[(lat cs).length]? = some c := by
  have := congrArg (fun l : List Int32 => l[(lat cs).length]?) e
  rw [List.getElem?_append_right (Nat.le_refl _), Nat.sub_self] at this
  exact this
end Jvm.Own

namespace Jvm.Own
open Sem ClassFile Op Lib Jvm.Stand Jvm.Free Jvm.LawKit Jvm.RoadKit
theorem own_ref {v : Value} (h : v.isRef = true) : v = .null ∨ ∃ a, v = .ref a := by
  cases v <;> first | exact Or.inl rfl | exact Or.inr ⟨_, rfl⟩ | (simp [Value.isRef] at h)
theorem i32_shr1 (i : Nat) (h : i < 1073741823) : Int32.ofNat (2 * i) >>> ((1 : Int32) &&& 31) = Int32.ofNat i := by
  apply Int32.toInt_inj.mp
  have e := c_ishr (Int32.ofNat (2 * i)) 1 1 (by decide)
  rw [i32_toInt (by omega)] at e
  rw [i32_toInt (by omega)]
  omega
theorem i32_shr0 (i : Nat) (h : i < 1073741823) : Int32.ofNat i >>> ((0 : Int32) &&& 31) = Int32.ofNat i := by
  apply Int32.toInt_inj.mp
  have e := c_ishr (Int32.ofNat i) 0 0 (by decide)
  rw [i32_toInt (by omega)] at e
  rw [i32_toInt (by omega)]
  omega
theorem l_and {c : Int32} (h0 : ¬ c < 0) (h1 : ¬ (255 : Int32) < c) : (bL c &&& (255 : Int32)) = c := by
  have h7 : (255 : Int32).toInt = 255 := by decide
  rw [Int32.lt_iff_toInt_lt, z32] at h0
  rw [Int32.lt_iff_toInt_lt, h7] at h1
  have e2 := m255 (bL c)
  have b1 := c_i2b c
  have e3 : (bL c).toInt = c.toInt8.toInt32.toInt := rfl
  apply Int32.toInt_inj.mp
  omega
theorem le255 {c : Int32} (h1 : ¬ (255 : Int32) < c) : ¬ (65535 : Int32) < c := by
  have h7 : (255 : Int32).toInt = 255 := by decide
  have h8 : (65535 : Int32).toInt = 65535 := by decide
  rw [Int32.lt_iff_toInt_lt, h7] at h1
  rw [Int32.lt_iff_toInt_lt, h8]
  omega
theorem l_get {c : Int32} (h0 : ¬ c < 0) (h1 : ¬ (255 : Int32) < c) : nar .char ((bL c &&& (255 : Int32)).toUInt32.toUInt16.toUInt32.toInt32) = c := by
  have h2 := nar_char h0 (le255 h1)
  have e : ((bL c &&& (255 : Int32)).toUInt32.toUInt16.toUInt32.toInt32) = c := by rw [l_and h0 h1]; exact h2
  rw [e]; exact h2
theorem set_vC (pre : List Int32) (c : Int32) : (vC pre ++ List.replicate 1 (Value.int 0)).set pre.length (Value.int c) = vC (pre ++ [c]) := by
  have e : (vC pre).length = pre.length := by simp [vC]
  rw [← e, List.set_append_right _ _ (Nat.le_refl _)]
  simp [vC]
theorem or0 (i : Nat) (h : i < 2147483648) : ¬ ((Int32.ofNat i ||| 0) ||| Int32.ofNat i) < 0 := by
  rw [Int32.or_zero, Int32.or_self]; exact i32_nn h
end Jvm.Own
namespace Jvm.Pilot.@@N@@
open Jvm Jvm.ClassFile Sem Op Lib Jvm.Free Jvm.Stand Jvm.LawKit Jvm.RoadKit Jvm.Own Bundle Jvm.Pilot.@@N@@.Jvm.D
theorem dc_jdk_52_method_21_code_0 : decode jdk_52_method_21_code 0 = .ok (.iconst 0, 1) := by decide +kernel
theorem dc_jdk_52_method_21_code_1 : decode jdk_52_method_21_code 1 = .ok (.istore 5, 2) := by decide +kernel
theorem dc_jdk_52_method_21_code_3 : decode jdk_52_method_21_code 3 = .ok (.iload 5, 2) := by decide +kernel
theorem dc_jdk_52_method_21_code_5 : decode jdk_52_method_21_code 5 = .ok (.iload 4, 2) := by decide +kernel
theorem dc_jdk_52_method_21_code_7 : decode jdk_52_method_21_code 7 = .ok (.if_icmp .ge 37, 3) := by decide +kernel
theorem dc_jdk_52_method_21_code_44 : decode jdk_52_method_21_code 44 = .ok (.iload 4, 2) := by decide +kernel
theorem dc_jdk_52_method_21_code_46 : decode jdk_52_method_21_code 46 = .ok (.ireturn, 1) := by decide +kernel
theorem dc_jdk_52_method_21_code_10 : decode jdk_52_method_21_code 10 = .ok (.aload_n 0, 1) := by decide +kernel
theorem dc_jdk_52_method_21_code_11 : decode jdk_52_method_21_code 11 = .ok (.iload_n 1, 1) := by decide +kernel
theorem dc_jdk_52_method_21_code_12 : decode jdk_52_method_21_code 12 = .ok (.caload, 1) := by decide +kernel
theorem dc_jdk_52_method_21_code_13 : decode jdk_52_method_21_code 13 = .ok (.istore 6, 2) := by decide +kernel
theorem dc_jdk_52_method_21_code_15 : decode jdk_52_method_21_code 15 = .ok (.iload 6, 2) := by decide +kernel
theorem dc_jdk_52_method_21_code_17 : decode jdk_52_method_21_code 17 = .ok (.sipush 255, 3) := by decide +kernel
theorem dc_jdk_52_method_21_code_20 : decode jdk_52_method_21_code 20 = .ok (.if_icmp .le 6, 3) := by decide +kernel
theorem dc_jdk_52_method_21_code_26 : decode jdk_52_method_21_code 26 = .ok (.aload_n 2, 1) := by decide +kernel
theorem dc_jdk_52_method_21_code_27 : decode jdk_52_method_21_code 27 = .ok (.iload_n 3, 1) := by decide +kernel
theorem dc_jdk_52_method_21_code_28 : decode jdk_52_method_21_code 28 = .ok (.iload 6, 2) := by decide +kernel
theorem dc_jdk_52_method_21_code_30 : decode jdk_52_method_21_code 30 = .ok (.i2b, 1) := by decide +kernel
theorem dc_jdk_52_method_21_code_31 : decode jdk_52_method_21_code 31 = .ok (.bastore, 1) := by decide +kernel
theorem dc_jdk_52_method_21_code_32 : decode jdk_52_method_21_code 32 = .ok (.iinc 1 1, 3) := by decide +kernel
theorem dc_jdk_52_method_21_code_35 : decode jdk_52_method_21_code 35 = .ok (.iinc 3 1, 3) := by decide +kernel
theorem dc_jdk_52_method_21_code_38 : decode jdk_52_method_21_code 38 = .ok (.iinc 5 1, 3) := by decide +kernel
theorem dc_jdk_52_method_21_code_41 : decode jdk_52_method_21_code 41 = .ok (.goto (-38), 3) := by decide +kernel
theorem dc_jdk_52_method_21_code_23 : decode jdk_52_method_21_code 23 = .ok (.iload 5, 2) := by decide +kernel
theorem dc_jdk_52_method_21_code_25 : decode jdk_52_method_21_code 25 = .ok (.ireturn, 1) := by decide +kernel
theorem dc_jdk_52_method_3_code_0 : decode jdk_52_method_3_code 0 = .ok (.iload_n 0, 1) := by decide +kernel
theorem dc_jdk_52_method_3_code_1 : decode jdk_52_method_3_code 1 = .ok (.ifCond .ge 11, 3) := by decide +kernel
theorem dc_jdk_52_method_3_code_12 : decode jdk_52_method_3_code 12 = .ok (.iload_n 0, 1) := by decide +kernel
theorem dc_jdk_52_method_3_code_13 : decode jdk_52_method_3_code 13 = .ok (.ldc 20, 2) := by decide +kernel
theorem dc_jdk_52_method_3_code_15 : decode jdk_52_method_3_code 15 = .ok (.if_icmp .lt 40, 3) := by decide +kernel
theorem dc_jdk_52_method_3_code_55 : decode jdk_52_method_3_code 55 = .ok (.iload_n 0, 1) := by decide +kernel
theorem dc_jdk_52_method_3_code_56 : decode jdk_52_method_3_code 56 = .ok (.iconst 1, 1) := by decide +kernel
theorem dc_jdk_52_method_3_code_57 : decode jdk_52_method_3_code 57 = .ok (.ishl, 1) := by decide +kernel
theorem dc_jdk_52_method_3_code_58 : decode jdk_52_method_3_code 58 = .ok (.ireturn, 1) := by decide +kernel
theorem dc_jdk_52_method_2_code_0 : decode jdk_52_method_2_code 0 = .ok (.iload_n 0, 1) := by decide +kernel
theorem dc_jdk_52_method_2_code_1 : decode jdk_52_method_2_code 1 = .ok (.invokestatic 11, 3) := by decide +kernel
theorem dc_jdk_52_method_2_code_4 : decode jdk_52_method_2_code 4 = .ok (.newarray .byte, 2) := by decide +kernel
theorem dc_jdk_52_method_2_code_6 : decode jdk_52_method_2_code 6 = .ok (.areturn, 1) := by decide +kernel
theorem dc_jdk_52_method_4_code_0 : decode jdk_52_method_4_code 0 = .ok (.getstatic 44, 3) := by decide +kernel
theorem dc_jdk_52_method_4_code_3 : decode jdk_52_method_4_code 3 = .ok (.ifCond .ne 25, 3) := by decide +kernel
theorem dc_jdk_52_method_4_code_28 : decode jdk_52_method_4_code 28 = .ok (.iload_n 1, 1) := by decide +kernel
theorem dc_jdk_52_method_4_code_29 : decode jdk_52_method_4_code 29 = .ok (.iconst 1, 1) := by decide +kernel
theorem dc_jdk_52_method_4_code_30 : decode jdk_52_method_4_code 30 = .ok (.ishl, 1) := by decide +kernel
theorem dc_jdk_52_method_4_code_31 : decode jdk_52_method_4_code 31 = .ok (.istore_n 1, 1) := by decide +kernel
theorem dc_jdk_52_method_4_code_32 : decode jdk_52_method_4_code 32 = .ok (.aload_n 0, 1) := by decide +kernel
theorem dc_jdk_52_method_4_code_33 : decode jdk_52_method_4_code 33 = .ok (.iload_n 1, 1) := by decide +kernel
theorem dc_jdk_52_method_4_code_34 : decode jdk_52_method_4_code 34 = .ok (.iinc 1 1, 3) := by decide +kernel
theorem dc_jdk_52_method_4_code_37 : decode jdk_52_method_4_code 37 = .ok (.iload_n 2, 1) := by decide +kernel
theorem dc_jdk_52_method_4_code_38 : decode jdk_52_method_4_code 38 = .ok (.getstatic 59, 3) := by decide +kernel
theorem dc_jdk_52_method_4_code_41 : decode jdk_52_method_4_code 41 = .ok (.ishr, 1) := by decide +kernel
theorem dc_jdk_52_method_4_code_42 : decode jdk_52_method_4_code 42 = .ok (.i2b, 1) := by decide +kernel
theorem dc_jdk_52_method_4_code_43 : decode jdk_52_method_4_code 43 = .ok (.bastore, 1) := by decide +kernel
theorem dc_jdk_52_method_4_code_44 : decode jdk_52_method_4_code 44 = .ok (.aload_n 0, 1) := by decide +kernel
theorem dc_jdk_52_method_4_code_45 : decode jdk_52_method_4_code 45 = .ok (.iload_n 1, 1) := by decide +kernel
theorem dc_jdk_52_method_4_code_46 : decode jdk_52_method_4_code 46 = .ok (.iload_n 2, 1) := by decide +kernel
theorem dc_jdk_52_method_4_code_47 : decode jdk_52_method_4_code 47 = .ok (.getstatic 63, 3) := by decide +kernel
theorem dc_jdk_52_method_4_code_50 : decode jdk_52_method_4_code 50 = .ok (.ishr, 1) := by decide +kernel
theorem dc_jdk_52_method_4_code_51 : decode jdk_52_method_4_code 51 = .ok (.i2b, 1) := by decide +kernel
theorem dc_jdk_52_method_4_code_52 : decode jdk_52_method_4_code 52 = .ok (.bastore, 1) := by decide +kernel
theorem dc_jdk_52_method_4_code_53 : decode jdk_52_method_4_code 53 = .ok (.return_, 1) := by decide +kernel
theorem dc_jdk_52_method_14_code_0 : decode jdk_52_method_14_code 0 = .ok (.iload_n 2, 1) := by decide +kernel
theorem dc_jdk_52_method_14_code_1 : decode jdk_52_method_14_code 1 = .ok (.invokestatic 107, 3) := by decide +kernel
theorem dc_jdk_52_method_14_code_4 : decode jdk_52_method_14_code 4 = .ok (.astore_n 3, 1) := by decide +kernel
theorem dc_jdk_52_method_14_code_5 : decode jdk_52_method_14_code 5 = .ok (.iconst 0, 1) := by decide +kernel
theorem dc_jdk_52_method_14_code_6 : decode jdk_52_method_14_code 6 = .ok (.istore 4, 2) := by decide +kernel
theorem dc_jdk_52_method_14_code_8 : decode jdk_52_method_14_code 8 = .ok (.iload 4, 2) := by decide +kernel
theorem dc_jdk_52_method_14_code_10 : decode jdk_52_method_14_code 10 = .ok (.iload_n 2, 1) := by decide +kernel
theorem dc_jdk_52_method_14_code_11 : decode jdk_52_method_14_code 11 = .ok (.if_icmp .ge 21, 3) := by decide +kernel
theorem dc_jdk_52_method_14_code_32 : decode jdk_52_method_14_code 32 = .ok (.aload_n 3, 1) := by decide +kernel
theorem dc_jdk_52_method_14_code_33 : decode jdk_52_method_14_code 33 = .ok (.areturn, 1) := by decide +kernel
theorem dc_jdk_52_method_14_code_14 : decode jdk_52_method_14_code 14 = .ok (.aload_n 3, 1) := by decide +kernel
theorem dc_jdk_52_method_14_code_15 : decode jdk_52_method_14_code 15 = .ok (.iload 4, 2) := by decide +kernel
theorem dc_jdk_52_method_14_code_17 : decode jdk_52_method_14_code 17 = .ok (.aload_n 0, 1) := by decide +kernel
theorem dc_jdk_52_method_14_code_18 : decode jdk_52_method_14_code 18 = .ok (.iload_n 1, 1) := by decide +kernel
theorem dc_jdk_52_method_14_code_19 : decode jdk_52_method_14_code 19 = .ok (.caload, 1) := by decide +kernel
theorem dc_jdk_52_method_14_code_20 : decode jdk_52_method_14_code 20 = .ok (.invokestatic 111, 3) := by decide +kernel
theorem dc_jdk_52_method_14_code_23 : decode jdk_52_method_14_code 23 = .ok (.iinc 1 1, 3) := by decide +kernel
theorem dc_jdk_52_method_14_code_26 : decode jdk_52_method_14_code 26 = .ok (.iinc 4 1, 3) := by decide +kernel
theorem dc_jdk_52_method_14_code_29 : decode jdk_52_method_14_code 29 = .ok (.goto (-21), 3) := by decide +kernel
theorem dc_jdk_52_method_5_code_0 : decode jdk_52_method_5_code 0 = .ok (.getstatic 44, 3) := by decide +kernel
theorem dc_jdk_52_method_5_code_3 : decode jdk_52_method_5_code 3 = .ok (.ifCond .ne 25, 3) := by decide +kernel
theorem dc_jdk_52_method_5_code_28 : decode jdk_52_method_5_code 28 = .ok (.iload_n 1, 1) := by decide +kernel
theorem dc_jdk_52_method_5_code_29 : decode jdk_52_method_5_code 29 = .ok (.iconst 1, 1) := by decide +kernel
theorem dc_jdk_52_method_5_code_30 : decode jdk_52_method_5_code 30 = .ok (.ishl, 1) := by decide +kernel
theorem dc_jdk_52_method_5_code_31 : decode jdk_52_method_5_code 31 = .ok (.istore_n 1, 1) := by decide +kernel
theorem dc_jdk_52_method_5_code_32 : decode jdk_52_method_5_code 32 = .ok (.aload_n 0, 1) := by decide +kernel
theorem dc_jdk_52_method_5_code_33 : decode jdk_52_method_5_code 33 = .ok (.iload_n 1, 1) := by decide +kernel
theorem dc_jdk_52_method_5_code_34 : decode jdk_52_method_5_code 34 = .ok (.iinc 1 1, 3) := by decide +kernel
theorem dc_jdk_52_method_5_code_37 : decode jdk_52_method_5_code 37 = .ok (.baload, 1) := by decide +kernel
theorem dc_jdk_52_method_5_code_38 : decode jdk_52_method_5_code 38 = .ok (.sipush 255, 3) := by decide +kernel
theorem dc_jdk_52_method_5_code_41 : decode jdk_52_method_5_code 41 = .ok (.iand, 1) := by decide +kernel
theorem dc_jdk_52_method_5_code_42 : decode jdk_52_method_5_code 42 = .ok (.getstatic 59, 3) := by decide +kernel
theorem dc_jdk_52_method_5_code_45 : decode jdk_52_method_5_code 45 = .ok (.ishl, 1) := by decide +kernel
theorem dc_jdk_52_method_5_code_46 : decode jdk_52_method_5_code 46 = .ok (.aload_n 0, 1) := by decide +kernel
theorem dc_jdk_52_method_5_code_47 : decode jdk_52_method_5_code 47 = .ok (.iload_n 1, 1) := by decide +kernel
theorem dc_jdk_52_method_5_code_48 : decode jdk_52_method_5_code 48 = .ok (.baload, 1) := by decide +kernel
theorem dc_jdk_52_method_5_code_49 : decode jdk_52_method_5_code 49 = .ok (.sipush 255, 3) := by decide +kernel
theorem dc_jdk_52_method_5_code_52 : decode jdk_52_method_5_code 52 = .ok (.iand, 1) := by decide +kernel
theorem dc_jdk_52_method_5_code_53 : decode jdk_52_method_5_code 53 = .ok (.getstatic 63, 3) := by decide +kernel
theorem dc_jdk_52_method_5_code_56 : decode jdk_52_method_5_code 56 = .ok (.ishl, 1) := by decide +kernel
theorem dc_jdk_52_method_5_code_57 : decode jdk_52_method_5_code 57 = .ok (.ior, 1) := by decide +kernel
theorem dc_jdk_52_method_5_code_58 : decode jdk_52_method_5_code 58 = .ok (.i2c, 1) := by decide +kernel
theorem dc_jdk_52_method_5_code_59 : decode jdk_52_method_5_code 59 = .ok (.ireturn, 1) := by decide +kernel
theorem dc_jdk_52_method_15_code_0 : decode jdk_52_method_15_code 0 = .ok (.iload_n 1, 1) := by decide +kernel
theorem dc_jdk_52_method_15_code_1 : decode jdk_52_method_15_code 1 = .ok (.aload_n 0, 1) := by decide +kernel
theorem dc_jdk_52_method_15_code_2 : decode jdk_52_method_15_code 2 = .ok (.arraylength, 1) := by decide +kernel
theorem dc_jdk_52_method_15_code_3 : decode jdk_52_method_15_code 3 = .ok (.isub, 1) := by decide +kernel
theorem dc_jdk_52_method_15_code_4 : decode jdk_52_method_15_code 4 = .ok (.bipush 31, 2) := by decide +kernel
theorem dc_jdk_52_method_15_code_6 : decode jdk_52_method_15_code 6 = .ok (.iushr, 1) := by decide +kernel
theorem dc_jdk_52_method_15_code_7 : decode jdk_52_method_15_code 7 = .ok (.i2b, 1) := by decide +kernel
theorem dc_jdk_52_method_15_code_8 : decode jdk_52_method_15_code 8 = .ok (.ireturn, 1) := by decide +kernel
theorem dc_jdk_52_method_16_code_0 : decode jdk_52_method_16_code 0 = .ok (.iload_n 2, 1) := by decide +kernel
theorem dc_jdk_52_method_16_code_1 : decode jdk_52_method_16_code 1 = .ok (.newarray .byte, 2) := by decide +kernel
theorem dc_jdk_52_method_16_code_3 : decode jdk_52_method_16_code 3 = .ok (.astore_n 3, 1) := by decide +kernel
theorem dc_jdk_52_method_16_code_4 : decode jdk_52_method_16_code 4 = .ok (.aload_n 0, 1) := by decide +kernel
theorem dc_jdk_52_method_16_code_5 : decode jdk_52_method_16_code 5 = .ok (.iload_n 1, 1) := by decide +kernel
theorem dc_jdk_52_method_16_code_6 : decode jdk_52_method_16_code 6 = .ok (.aload_n 3, 1) := by decide +kernel
theorem dc_jdk_52_method_16_code_7 : decode jdk_52_method_16_code 7 = .ok (.iconst 0, 1) := by decide +kernel
theorem dc_jdk_52_method_16_code_8 : decode jdk_52_method_16_code 8 = .ok (.iload_n 2, 1) := by decide +kernel
theorem dc_jdk_52_method_16_code_9 : decode jdk_52_method_16_code 9 = .ok (.invokestatic 115, 3) := by decide +kernel
theorem dc_jdk_52_method_16_code_12 : decode jdk_52_method_16_code 12 = .ok (.istore 4, 2) := by decide +kernel
theorem dc_jdk_52_method_16_code_14 : decode jdk_52_method_16_code 14 = .ok (.iload 4, 2) := by decide +kernel
theorem dc_jdk_52_method_16_code_16 : decode jdk_52_method_16_code 16 = .ok (.iload_n 2, 1) := by decide +kernel
theorem dc_jdk_52_method_16_code_17 : decode jdk_52_method_16_code 17 = .ok (.if_icmp .eq 40, 3) := by decide +kernel
theorem dc_jdk_52_method_16_code_57 : decode jdk_52_method_16_code 57 = .ok (.aload_n 3, 1) := by decide +kernel
theorem dc_jdk_52_method_16_code_58 : decode jdk_52_method_16_code 58 = .ok (.areturn, 1) := by decide +kernel
theorem dc_jdk_52_method_16_code_20 : decode jdk_52_method_16_code 20 = .ok (.aload_n 0, 1) := by decide +kernel
theorem dc_jdk_52_method_16_code_21 : decode jdk_52_method_16_code 21 = .ok (.iload_n 1, 1) := by decide +kernel
theorem dc_jdk_52_method_16_code_22 : decode jdk_52_method_16_code 22 = .ok (.iload_n 2, 1) := by decide +kernel
theorem dc_jdk_52_method_16_code_23 : decode jdk_52_method_16_code 23 = .ok (.invokestatic 119, 3) := by decide +kernel
theorem dc_jdk_52_method_16_code_26 : decode jdk_52_method_16_code 26 = .ok (.astore 5, 2) := by decide +kernel
theorem dc_jdk_52_method_16_code_28 : decode jdk_52_method_16_code 28 = .ok (.aload 5, 2) := by decide +kernel
theorem dc_jdk_52_method_16_code_30 : decode jdk_52_method_16_code 30 = .ok (.iload 4, 2) := by decide +kernel
theorem dc_jdk_52_method_16_code_32 : decode jdk_52_method_16_code 32 = .ok (.invokestatic 71, 3) := by decide +kernel
theorem dc_jdk_52_method_16_code_35 : decode jdk_52_method_16_code 35 = .ok (.sipush 255, 3) := by decide +kernel
theorem dc_jdk_52_method_16_code_38 : decode jdk_52_method_16_code 38 = .ok (.if_icmp .gt 16, 3) := by decide +kernel
theorem dc_jdk_52_method_16_code_54 : decode jdk_52_method_16_code 54 = .ok (.aload 5, 2) := by decide +kernel
theorem dc_jdk_52_method_16_code_56 : decode jdk_52_method_16_code 56 = .ok (.areturn, 1) := by decide +kernel
theorem dc_jdk_42_method_149_code_0 : decode jdk_42_method_149_code 0 = .ok (.aload_n 0, 1) := by decide +kernel
theorem dc_jdk_42_method_149_code_1 : decode jdk_42_method_149_code 1 = .ok (.invokespecial 1, 3) := by decide +kernel
theorem dc_jdk_42_method_149_code_4 : decode jdk_42_method_149_code 4 = .ok (.iload_n 3, 1) := by decide +kernel
theorem dc_jdk_42_method_149_code_5 : decode jdk_42_method_149_code 5 = .ok (.ifCond .ne 22, 3) := by decide +kernel
theorem dc_jdk_42_method_149_code_27 : decode jdk_42_method_149_code 27 = .ok (.getstatic 38, 3) := by decide +kernel
theorem dc_jdk_42_method_149_code_30 : decode jdk_42_method_149_code 30 = .ok (.ifCond .eq 28, 3) := by decide +kernel
theorem dc_jdk_42_method_149_code_33 : decode jdk_42_method_149_code 33 = .ok (.aload_n 1, 1) := by decide +kernel
theorem dc_jdk_42_method_149_code_34 : decode jdk_42_method_149_code 34 = .ok (.iload_n 2, 1) := by decide +kernel
theorem dc_jdk_42_method_149_code_35 : decode jdk_42_method_149_code 35 = .ok (.iload_n 3, 1) := by decide +kernel
theorem dc_jdk_42_method_149_code_36 : decode jdk_42_method_149_code 36 = .ok (.invokestatic 177, 3) := by decide +kernel
theorem dc_jdk_42_method_149_code_39 : decode jdk_42_method_149_code 39 = .ok (.astore 5, 2) := by decide +kernel
theorem dc_jdk_42_method_149_code_41 : decode jdk_42_method_149_code 41 = .ok (.aload_n 0, 1) := by decide +kernel
theorem dc_jdk_42_method_149_code_42 : decode jdk_42_method_149_code 42 = .ok (.aload 5, 2) := by decide +kernel
theorem dc_jdk_42_method_149_code_44 : decode jdk_42_method_149_code 44 = .ok (.iload_n 3, 1) := by decide +kernel
theorem dc_jdk_42_method_149_code_45 : decode jdk_42_method_149_code 45 = .ok (.invokestatic 47, 3) := by decide +kernel
theorem dc_jdk_42_method_149_code_48 : decode jdk_42_method_149_code 48 = .ok (.putfield 15, 3) := by decide +kernel
theorem dc_jdk_42_method_149_code_51 : decode jdk_42_method_149_code 51 = .ok (.aload_n 0, 1) := by decide +kernel
theorem dc_jdk_42_method_149_code_52 : decode jdk_42_method_149_code 52 = .ok (.aload 5, 2) := by decide +kernel
theorem dc_jdk_42_method_149_code_54 : decode jdk_42_method_149_code 54 = .ok (.putfield 9, 3) := by decide +kernel
theorem dc_jdk_42_method_149_code_57 : decode jdk_42_method_149_code 57 = .ok (.return_, 1) := by decide +kernel
theorem dc_jdk_42_method_3_code_0 : decode jdk_42_method_3_code 0 = .ok (.aload_n 0, 1) := by decide +kernel
theorem dc_jdk_42_method_3_code_1 : decode jdk_42_method_3_code 1 = .ok (.aload_n 1, 1) := by decide +kernel
theorem dc_jdk_42_method_3_code_2 : decode jdk_42_method_3_code 2 = .ok (.iconst 0, 1) := by decide +kernel
theorem dc_jdk_42_method_3_code_3 : decode jdk_42_method_3_code 3 = .ok (.aload_n 1, 1) := by decide +kernel
theorem dc_jdk_42_method_3_code_4 : decode jdk_42_method_3_code 4 = .ok (.arraylength, 1) := by decide +kernel
theorem dc_jdk_42_method_3_code_5 : decode jdk_42_method_3_code 5 = .ok (.aconst_null, 1) := by decide +kernel
theorem dc_jdk_42_method_3_code_6 : decode jdk_42_method_3_code 6 = .ok (.invokespecial 27, 3) := by decide +kernel
theorem dc_jdk_42_method_3_code_9 : decode jdk_42_method_3_code 9 = .ok (.return_, 1) := by decide +kernel
theorem dc_jdk_41_method_11_code_0 : decode jdk_41_method_11_code 0 = .ok (.iload_n 0, 1) := by decide +kernel
theorem dc_jdk_41_method_11_code_1 : decode jdk_41_method_11_code 1 = .ok (.ifCond .lt 8, 3) := by decide +kernel
theorem dc_jdk_41_method_11_code_4 : decode jdk_41_method_11_code 4 = .ok (.iload_n 0, 1) := by decide +kernel
theorem dc_jdk_41_method_11_code_5 : decode jdk_41_method_11_code 5 = .ok (.iload_n 1, 1) := by decide +kernel
theorem dc_jdk_41_method_11_code_6 : decode jdk_41_method_11_code 6 = .ok (.if_icmp .lt 10, 3) := by decide +kernel
theorem dc_jdk_41_method_11_code_16 : decode jdk_41_method_11_code 16 = .ok (.iload_n 0, 1) := by decide +kernel
theorem dc_jdk_41_method_11_code_17 : decode jdk_41_method_11_code 17 = .ok (.ireturn, 1) := by decide +kernel
theorem dc_jdk_42_method_155_code_0 : decode jdk_42_method_155_code 0 = .ok (.iload_n 0, 1) := by decide +kernel
theorem dc_jdk_42_method_155_code_1 : decode jdk_42_method_155_code 1 = .ok (.iload_n 1, 1) := by decide +kernel
theorem dc_jdk_42_method_155_code_2 : decode jdk_42_method_155_code 2 = .ok (.getstatic 1053, 3) := by decide +kernel
theorem dc_jdk_42_method_155_code_5 : decode jdk_42_method_155_code 5 = .ok (.invokestatic 1059, 3) := by decide +kernel
theorem dc_jdk_42_method_155_code_8 : decode jdk_42_method_155_code 8 = .ok (.pop, 1) := by decide +kernel
theorem dc_jdk_42_method_155_code_9 : decode jdk_42_method_155_code 9 = .ok (.return_, 1) := by decide +kernel
theorem dc_jdk_42_method_154_code_0 : decode jdk_42_method_154_code 0 = .ok (.getstatic 38, 3) := by decide +kernel
theorem dc_jdk_42_method_154_code_3 : decode jdk_42_method_154_code 3 = .ok (.ifCond .eq 14, 3) := by decide +kernel
theorem dc_jdk_42_method_154_code_6 : decode jdk_42_method_154_code 6 = .ok (.aload_n 0, 1) := by decide +kernel
theorem dc_jdk_42_method_154_code_7 : decode jdk_42_method_154_code 7 = .ok (.getfield 15, 3) := by decide +kernel
theorem dc_jdk_42_method_154_code_10 : decode jdk_42_method_154_code 10 = .ok (.ifCond .ne 7, 3) := by decide +kernel
theorem dc_jdk_42_method_154_code_13 : decode jdk_42_method_154_code 13 = .ok (.iconst 1, 1) := by decide +kernel
theorem dc_jdk_42_method_154_code_14 : decode jdk_42_method_154_code 14 = .ok (.goto 4, 3) := by decide +kernel
theorem dc_jdk_42_method_154_code_18 : decode jdk_42_method_154_code 18 = .ok (.ireturn, 1) := by decide +kernel
theorem dc_jdk_42_method_154_code_17 : decode jdk_42_method_154_code 17 = .ok (.iconst 0, 1) := by decide +kernel
theorem dc_jdk_52_method_6_code_0 : decode jdk_52_method_6_code 0 = .ok (.aload_n 0, 1) := by decide +kernel
theorem dc_jdk_52_method_6_code_1 : decode jdk_52_method_6_code 1 = .ok (.arraylength, 1) := by decide +kernel
theorem dc_jdk_52_method_6_code_2 : decode jdk_52_method_6_code 2 = .ok (.iconst 1, 1) := by decide +kernel
theorem dc_jdk_52_method_6_code_3 : decode jdk_52_method_6_code 3 = .ok (.ishr, 1) := by decide +kernel
theorem dc_jdk_52_method_6_code_4 : decode jdk_52_method_6_code 4 = .ok (.ireturn, 1) := by decide +kernel
theorem dc_jdk_52_method_91_code_0 : decode jdk_52_method_91_code 0 = .ok (.iload_n 0, 1) := by decide +kernel
theorem dc_jdk_52_method_91_code_1 : decode jdk_52_method_91_code 1 = .ok (.aload_n 1, 1) := by decide +kernel
theorem dc_jdk_52_method_91_code_2 : decode jdk_52_method_91_code 2 = .ok (.invokestatic 48, 3) := by decide +kernel
theorem dc_jdk_52_method_91_code_5 : decode jdk_52_method_91_code 5 = .ok (.invokestatic 414, 3) := by decide +kernel
theorem dc_jdk_52_method_91_code_8 : decode jdk_52_method_91_code 8 = .ok (.return_, 1) := by decide +kernel
theorem dc_jdk_52_method_83_code_0 : decode jdk_52_method_83_code 0 = .ok (.iload_n 1, 1) := by decide +kernel
theorem dc_jdk_52_method_83_code_1 : decode jdk_52_method_83_code 1 = .ok (.aload_n 0, 1) := by decide +kernel
theorem dc_jdk_52_method_83_code_2 : decode jdk_52_method_83_code 2 = .ok (.invokestatic 67, 3) := by decide +kernel
theorem dc_jdk_52_method_83_code_5 : decode jdk_52_method_83_code 5 = .ok (.aload_n 0, 1) := by decide +kernel
theorem dc_jdk_52_method_83_code_6 : decode jdk_52_method_83_code 6 = .ok (.iload_n 1, 1) := by decide +kernel
theorem dc_jdk_52_method_83_code_7 : decode jdk_52_method_83_code 7 = .ok (.invokestatic 71, 3) := by decide +kernel
theorem dc_jdk_52_method_83_code_10 : decode jdk_52_method_83_code 10 = .ok (.ireturn, 1) := by decide +kernel
theorem dc_jdk_43_method_2_code_0 : decode jdk_43_method_2_code 0 = .ok (.iload_n 1, 1) := by decide +kernel
theorem dc_jdk_43_method_2_code_1 : decode jdk_43_method_2_code 1 = .ok (.aload_n 0, 1) := by decide +kernel
theorem dc_jdk_43_method_2_code_2 : decode jdk_43_method_2_code 2 = .ok (.arraylength, 1) := by decide +kernel
theorem dc_jdk_43_method_2_code_3 : decode jdk_43_method_2_code 3 = .ok (.invokestatic 9, 3) := by decide +kernel
theorem dc_jdk_43_method_2_code_6 : decode jdk_43_method_2_code 6 = .ok (.aload_n 0, 1) := by decide +kernel
theorem dc_jdk_43_method_2_code_7 : decode jdk_43_method_2_code 7 = .ok (.iload_n 1, 1) := by decide +kernel
theorem dc_jdk_43_method_2_code_8 : decode jdk_43_method_2_code 8 = .ok (.baload, 1) := by decide +kernel
theorem dc_jdk_43_method_2_code_9 : decode jdk_43_method_2_code 9 = .ok (.sipush 255, 3) := by decide +kernel
theorem dc_jdk_43_method_2_code_12 : decode jdk_43_method_2_code 12 = .ok (.iand, 1) := by decide +kernel
theorem dc_jdk_43_method_2_code_13 : decode jdk_43_method_2_code 13 = .ok (.i2c, 1) := by decide +kernel
theorem dc_jdk_43_method_2_code_14 : decode jdk_43_method_2_code 14 = .ok (.ireturn, 1) := by decide +kernel
theorem dc_jdk_42_method_56_code_0 : decode jdk_42_method_56_code 0 = .ok (.aload_n 0, 1) := by decide +kernel
theorem dc_jdk_42_method_56_code_1 : decode jdk_42_method_56_code 1 = .ok (.invokevirtual 492, 3) := by decide +kernel
theorem dc_jdk_42_method_56_code_4 : decode jdk_42_method_56_code 4 = .ok (.ifCond .eq 12, 3) := by decide +kernel
theorem dc_jdk_42_method_56_code_7 : decode jdk_42_method_56_code 7 = .ok (.aload_n 0, 1) := by decide +kernel
theorem dc_jdk_42_method_56_code_8 : decode jdk_42_method_56_code 8 = .ok (.getfield 9, 3) := by decide +kernel
theorem dc_jdk_42_method_56_code_11 : decode jdk_42_method_56_code 11 = .ok (.iload_n 1, 1) := by decide +kernel
theorem dc_jdk_42_method_56_code_12 : decode jdk_42_method_56_code 12 = .ok (.invokestatic 495, 3) := by decide +kernel
theorem dc_jdk_42_method_56_code_15 : decode jdk_42_method_56_code 15 = .ok (.ireturn, 1) := by decide +kernel
theorem dc_jdk_42_method_56_code_16 : decode jdk_42_method_56_code 16 = .ok (.aload_n 0, 1) := by decide +kernel
theorem dc_jdk_42_method_56_code_17 : decode jdk_42_method_56_code 17 = .ok (.getfield 9, 3) := by decide +kernel
theorem dc_jdk_42_method_56_code_20 : decode jdk_42_method_56_code 20 = .ok (.iload_n 1, 1) := by decide +kernel
theorem dc_jdk_42_method_56_code_21 : decode jdk_42_method_56_code 21 = .ok (.invokestatic 498, 3) := by decide +kernel
theorem dc_jdk_42_method_56_code_24 : decode jdk_42_method_56_code 24 = .ok (.ireturn, 1) := by decide +kernel
theorem dc_jdk_41_method_13_code_0 : decode jdk_41_method_13_code 0 = .ok (.iload_n 2, 1) := by decide +kernel
theorem dc_jdk_41_method_13_code_1 : decode jdk_41_method_13_code 1 = .ok (.iload_n 0, 1) := by decide +kernel
theorem dc_jdk_41_method_13_code_2 : decode jdk_41_method_13_code 2 = .ok (.ior, 1) := by decide +kernel
theorem dc_jdk_41_method_13_code_3 : decode jdk_41_method_13_code 3 = .ok (.iload_n 1, 1) := by decide +kernel
theorem dc_jdk_41_method_13_code_4 : decode jdk_41_method_13_code 4 = .ok (.ior, 1) := by decide +kernel
theorem dc_jdk_41_method_13_code_5 : decode jdk_41_method_13_code 5 = .ok (.ifCond .lt 10, 3) := by decide +kernel
theorem dc_jdk_41_method_13_code_8 : decode jdk_41_method_13_code 8 = .ok (.iload_n 1, 1) := by decide +kernel
theorem dc_jdk_41_method_13_code_9 : decode jdk_41_method_13_code 9 = .ok (.iload_n 2, 1) := by decide +kernel
theorem dc_jdk_41_method_13_code_10 : decode jdk_41_method_13_code 10 = .ok (.iload_n 0, 1) := by decide +kernel
theorem dc_jdk_41_method_13_code_11 : decode jdk_41_method_13_code 11 = .ok (.isub, 1) := by decide +kernel
theorem dc_jdk_41_method_13_code_12 : decode jdk_41_method_13_code 12 = .ok (.if_icmp .le 11, 3) := by decide +kernel
theorem dc_jdk_41_method_13_code_23 : decode jdk_41_method_13_code 23 = .ok (.iload_n 0, 1) := by decide +kernel
theorem dc_jdk_41_method_13_code_24 : decode jdk_41_method_13_code 24 = .ok (.ireturn, 1) := by decide +kernel
theorem dc_jdk_42_method_157_code_0 : decode jdk_42_method_157_code 0 = .ok (.iload_n 0, 1) := by decide +kernel
theorem dc_jdk_42_method_157_code_1 : decode jdk_42_method_157_code 1 = .ok (.iload_n 1, 1) := by decide +kernel
theorem dc_jdk_42_method_157_code_2 : decode jdk_42_method_157_code 2 = .ok (.iload_n 2, 1) := by decide +kernel
theorem dc_jdk_42_method_157_code_3 : decode jdk_42_method_157_code 3 = .ok (.getstatic 1053, 3) := by decide +kernel
theorem dc_jdk_42_method_157_code_6 : decode jdk_42_method_157_code 6 = .ok (.invokestatic 1065, 3) := by decide +kernel
theorem dc_jdk_42_method_157_code_9 : decode jdk_42_method_157_code 9 = .ok (.ireturn, 1) := by decide +kernel
theorem dc_jdk_52_method_94_code_0 : decode jdk_52_method_94_code 0 = .ok (.iload_n 0, 1) := by decide +kernel
theorem dc_jdk_52_method_94_code_1 : decode jdk_52_method_94_code 1 = .ok (.iload_n 1, 1) := by decide +kernel
theorem dc_jdk_52_method_94_code_2 : decode jdk_52_method_94_code 2 = .ok (.aload_n 2, 1) := by decide +kernel
theorem dc_jdk_52_method_94_code_3 : decode jdk_52_method_94_code 3 = .ok (.invokestatic 48, 3) := by decide +kernel
theorem dc_jdk_52_method_94_code_6 : decode jdk_52_method_94_code 6 = .ok (.invokestatic 419, 3) := by decide +kernel
theorem dc_jdk_52_method_94_code_9 : decode jdk_52_method_94_code 9 = .ok (.pop, 1) := by decide +kernel
theorem dc_jdk_52_method_94_code_10 : decode jdk_52_method_94_code 10 = .ok (.return_, 1) := by decide +kernel
theorem dc_jdk_52_method_26_code_0 : decode jdk_52_method_26_code 0 = .ok (.iload_n 1, 1) := by decide +kernel
theorem dc_jdk_52_method_26_code_1 : decode jdk_52_method_26_code 1 = .ok (.iload_n 2, 1) := by decide +kernel
theorem dc_jdk_52_method_26_code_2 : decode jdk_52_method_26_code 2 = .ok (.if_icmp .ge 11, 3) := by decide +kernel
theorem dc_jdk_52_method_26_code_5 : decode jdk_52_method_26_code 5 = .ok (.iload_n 1, 1) := by decide +kernel
theorem dc_jdk_52_method_26_code_6 : decode jdk_52_method_26_code 6 = .ok (.iload_n 2, 1) := by decide +kernel
theorem dc_jdk_52_method_26_code_7 : decode jdk_52_method_26_code 7 = .ok (.iload_n 1, 1) := by decide +kernel
theorem dc_jdk_52_method_26_code_8 : decode jdk_52_method_26_code 8 = .ok (.isub, 1) := by decide +kernel
theorem dc_jdk_52_method_26_code_9 : decode jdk_52_method_26_code 9 = .ok (.aload_n 0, 1) := by decide +kernel
theorem dc_jdk_52_method_26_code_10 : decode jdk_52_method_26_code 10 = .ok (.invokestatic 173, 3) := by decide +kernel
theorem dc_jdk_52_method_26_code_13 : decode jdk_52_method_26_code 13 = .ok (.iload_n 1, 1) := by decide +kernel
theorem dc_jdk_52_method_26_code_14 : decode jdk_52_method_26_code 14 = .ok (.istore 5, 2) := by decide +kernel
theorem dc_jdk_52_method_26_code_16 : decode jdk_52_method_26_code 16 = .ok (.iload 5, 2) := by decide +kernel
theorem dc_jdk_52_method_26_code_18 : decode jdk_52_method_26_code 18 = .ok (.iload_n 2, 1) := by decide +kernel
theorem dc_jdk_52_method_26_code_19 : decode jdk_52_method_26_code 19 = .ok (.if_icmp .ge 22, 3) := by decide +kernel
theorem dc_jdk_52_method_26_code_41 : decode jdk_52_method_26_code 41 = .ok (.return_, 1) := by decide +kernel
theorem dc_jdk_52_method_26_code_22 : decode jdk_52_method_26_code 22 = .ok (.aload_n 3, 1) := by decide +kernel
theorem dc_jdk_52_method_26_code_23 : decode jdk_52_method_26_code 23 = .ok (.iload 4, 2) := by decide +kernel
theorem dc_jdk_52_method_26_code_25 : decode jdk_52_method_26_code 25 = .ok (.iinc 4 1, 3) := by decide +kernel
theorem dc_jdk_52_method_26_code_28 : decode jdk_52_method_26_code 28 = .ok (.aload_n 0, 1) := by decide +kernel
theorem dc_jdk_52_method_26_code_29 : decode jdk_52_method_26_code 29 = .ok (.iload 5, 2) := by decide +kernel
theorem dc_jdk_52_method_26_code_31 : decode jdk_52_method_26_code 31 = .ok (.invokestatic 71, 3) := by decide +kernel
theorem dc_jdk_52_method_26_code_34 : decode jdk_52_method_26_code 34 = .ok (.castore, 1) := by decide +kernel
theorem dc_jdk_52_method_26_code_35 : decode jdk_52_method_26_code 35 = .ok (.iinc 5 1, 3) := by decide +kernel
theorem dc_jdk_52_method_26_code_38 : decode jdk_52_method_26_code 38 = .ok (.goto (-22), 3) := by decide +kernel
theorem dc_jdk_43_method_49_code_0 : decode jdk_43_method_49_code 0 = .ok (.iconst 0, 1) := by decide +kernel
theorem dc_jdk_43_method_49_code_1 : decode jdk_43_method_49_code 1 = .ok (.istore 5, 2) := by decide +kernel
theorem dc_jdk_43_method_49_code_3 : decode jdk_43_method_49_code 3 = .ok (.iload 5, 2) := by decide +kernel
theorem dc_jdk_43_method_49_code_5 : decode jdk_43_method_49_code 5 = .ok (.iload 4, 2) := by decide +kernel
theorem dc_jdk_43_method_49_code_7 : decode jdk_43_method_49_code 7 = .ok (.if_icmp .ge 26, 3) := by decide +kernel
theorem dc_jdk_43_method_49_code_33 : decode jdk_43_method_49_code 33 = .ok (.return_, 1) := by decide +kernel
theorem dc_jdk_43_method_49_code_10 : decode jdk_43_method_49_code 10 = .ok (.aload_n 2, 1) := by decide +kernel
theorem dc_jdk_43_method_49_code_11 : decode jdk_43_method_49_code 11 = .ok (.iload_n 3, 1) := by decide +kernel
theorem dc_jdk_43_method_49_code_12 : decode jdk_43_method_49_code 12 = .ok (.iinc 3 1, 3) := by decide +kernel
theorem dc_jdk_43_method_49_code_15 : decode jdk_43_method_49_code 15 = .ok (.aload_n 0, 1) := by decide +kernel
theorem dc_jdk_43_method_49_code_16 : decode jdk_43_method_49_code 16 = .ok (.iload_n 1, 1) := by decide +kernel
theorem dc_jdk_43_method_49_code_17 : decode jdk_43_method_49_code 17 = .ok (.iinc 1 1, 3) := by decide +kernel
theorem dc_jdk_43_method_49_code_20 : decode jdk_43_method_49_code 20 = .ok (.baload, 1) := by decide +kernel
theorem dc_jdk_43_method_49_code_21 : decode jdk_43_method_49_code 21 = .ok (.sipush 255, 3) := by decide +kernel
theorem dc_jdk_43_method_49_code_24 : decode jdk_43_method_49_code 24 = .ok (.iand, 1) := by decide +kernel
theorem dc_jdk_43_method_49_code_25 : decode jdk_43_method_49_code 25 = .ok (.i2c, 1) := by decide +kernel
theorem dc_jdk_43_method_49_code_26 : decode jdk_43_method_49_code 26 = .ok (.castore, 1) := by decide +kernel
theorem dc_jdk_43_method_49_code_27 : decode jdk_43_method_49_code 27 = .ok (.iinc 5 1, 3) := by decide +kernel
theorem dc_jdk_43_method_49_code_30 : decode jdk_43_method_49_code 30 = .ok (.goto (-27), 3) := by decide +kernel
theorem dc_jdk_43_method_9_code_0 : decode jdk_43_method_9_code 0 = .ok (.aload_n 0, 1) := by decide +kernel
theorem dc_jdk_43_method_9_code_1 : decode jdk_43_method_9_code 1 = .ok (.arraylength, 1) := by decide +kernel
theorem dc_jdk_43_method_9_code_2 : decode jdk_43_method_9_code 2 = .ok (.newarray .char, 2) := by decide +kernel
theorem dc_jdk_43_method_9_code_4 : decode jdk_43_method_9_code 4 = .ok (.astore_n 1, 1) := by decide +kernel
theorem dc_jdk_43_method_9_code_5 : decode jdk_43_method_9_code 5 = .ok (.aload_n 0, 1) := by decide +kernel
theorem dc_jdk_43_method_9_code_6 : decode jdk_43_method_9_code 6 = .ok (.iconst 0, 1) := by decide +kernel
theorem dc_jdk_43_method_9_code_7 : decode jdk_43_method_9_code 7 = .ok (.aload_n 1, 1) := by decide +kernel
theorem dc_jdk_43_method_9_code_8 : decode jdk_43_method_9_code 8 = .ok (.iconst 0, 1) := by decide +kernel
theorem dc_jdk_43_method_9_code_9 : decode jdk_43_method_9_code 9 = .ok (.aload_n 0, 1) := by decide +kernel
theorem dc_jdk_43_method_9_code_10 : decode jdk_43_method_9_code 10 = .ok (.arraylength, 1) := by decide +kernel
theorem dc_jdk_43_method_9_code_11 : decode jdk_43_method_9_code 11 = .ok (.invokestatic 13, 3) := by decide +kernel
theorem dc_jdk_43_method_9_code_14 : decode jdk_43_method_9_code 14 = .ok (.aload_n 1, 1) := by decide +kernel
theorem dc_jdk_43_method_9_code_15 : decode jdk_43_method_9_code 15 = .ok (.areturn, 1) := by decide +kernel
theorem dc_jdk_52_method_13_code_0 : decode jdk_52_method_13_code 0 = .ok (.aload_n 0, 1) := by decide +kernel
theorem dc_jdk_52_method_13_code_1 : decode jdk_52_method_13_code 1 = .ok (.arraylength, 1) := by decide +kernel
theorem dc_jdk_52_method_13_code_2 : decode jdk_52_method_13_code 2 = .ok (.iconst 1, 1) := by decide +kernel
theorem dc_jdk_52_method_13_code_3 : decode jdk_52_method_13_code 3 = .ok (.ishr, 1) := by decide +kernel
theorem dc_jdk_52_method_13_code_4 : decode jdk_52_method_13_code 4 = .ok (.newarray .char, 2) := by decide +kernel
theorem dc_jdk_52_method_13_code_6 : decode jdk_52_method_13_code 6 = .ok (.astore_n 1, 1) := by decide +kernel
theorem dc_jdk_52_method_13_code_7 : decode jdk_52_method_13_code 7 = .ok (.aload_n 0, 1) := by decide +kernel
theorem dc_jdk_52_method_13_code_8 : decode jdk_52_method_13_code 8 = .ok (.iconst 0, 1) := by decide +kernel
theorem dc_jdk_52_method_13_code_9 : decode jdk_52_method_13_code 9 = .ok (.aload_n 1, 1) := by decide +kernel
theorem dc_jdk_52_method_13_code_10 : decode jdk_52_method_13_code 10 = .ok (.arraylength, 1) := by decide +kernel
theorem dc_jdk_52_method_13_code_11 : decode jdk_52_method_13_code 11 = .ok (.aload_n 1, 1) := by decide +kernel
theorem dc_jdk_52_method_13_code_12 : decode jdk_52_method_13_code 12 = .ok (.iconst 0, 1) := by decide +kernel
theorem dc_jdk_52_method_13_code_13 : decode jdk_52_method_13_code 13 = .ok (.invokestatic 103, 3) := by decide +kernel
theorem dc_jdk_52_method_13_code_16 : decode jdk_52_method_13_code 16 = .ok (.aload_n 1, 1) := by decide +kernel
theorem dc_jdk_52_method_13_code_17 : decode jdk_52_method_13_code 17 = .ok (.areturn, 1) := by decide +kernel
theorem dc_jdk_42_method_129_code_0 : decode jdk_42_method_129_code 0 = .ok (.aload_n 0, 1) := by decide +kernel
theorem dc_jdk_42_method_129_code_1 : decode jdk_42_method_129_code 1 = .ok (.invokevirtual 492, 3) := by decide +kernel
theorem dc_jdk_42_method_129_code_4 : decode jdk_42_method_129_code 4 = .ok (.ifCond .eq 13, 3) := by decide +kernel
theorem dc_jdk_42_method_129_code_7 : decode jdk_42_method_129_code 7 = .ok (.aload_n 0, 1) := by decide +kernel
theorem dc_jdk_42_method_129_code_8 : decode jdk_42_method_129_code 8 = .ok (.getfield 9, 3) := by decide +kernel
theorem dc_jdk_42_method_129_code_11 : decode jdk_42_method_129_code 11 = .ok (.invokestatic 299, 3) := by decide +kernel
theorem dc_jdk_42_method_129_code_14 : decode jdk_42_method_129_code 14 = .ok (.goto 10, 3) := by decide +kernel
theorem dc_jdk_42_method_129_code_24 : decode jdk_42_method_129_code 24 = .ok (.areturn, 1) := by decide +kernel
theorem dc_jdk_42_method_129_code_17 : decode jdk_42_method_129_code 17 = .ok (.aload_n 0, 1) := by decide +kernel
theorem dc_jdk_42_method_129_code_18 : decode jdk_42_method_129_code 18 = .ok (.getfield 9, 3) := by decide +kernel
theorem dc_jdk_42_method_129_code_21 : decode jdk_42_method_129_code 21 = .ok (.invokestatic 303, 3) := by decide +kernel
theorem dc_jdk_42_method_152_code_0 : decode jdk_42_method_152_code 0 = .ok (.getstatic 38, 3) := by decide +kernel
theorem dc_jdk_42_method_152_code_3 : decode jdk_42_method_152_code 3 = .ok (.ifCond .eq 10, 3) := by decide +kernel
theorem dc_jdk_42_method_152_code_6 : decode jdk_42_method_152_code 6 = .ok (.aload_n 0, 1) := by decide +kernel
theorem dc_jdk_42_method_152_code_7 : decode jdk_42_method_152_code 7 = .ok (.getfield 15, 3) := by decide +kernel
theorem dc_jdk_42_method_152_code_10 : decode jdk_42_method_152_code 10 = .ok (.goto 4, 3) := by decide +kernel
theorem dc_jdk_42_method_152_code_14 : decode jdk_42_method_152_code 14 = .ok (.ireturn, 1) := by decide +kernel
theorem dc_jdk_42_method_54_code_0 : decode jdk_42_method_54_code 0 = .ok (.aload_n 0, 1) := by decide +kernel
theorem dc_jdk_42_method_54_code_1 : decode jdk_42_method_54_code 1 = .ok (.getfield 9, 3) := by decide +kernel
theorem dc_jdk_42_method_54_code_4 : decode jdk_42_method_54_code 4 = .ok (.arraylength, 1) := by decide +kernel
theorem dc_jdk_42_method_54_code_5 : decode jdk_42_method_54_code 5 = .ok (.aload_n 0, 1) := by decide +kernel
theorem dc_jdk_42_method_54_code_6 : decode jdk_42_method_54_code 6 = .ok (.invokevirtual 335, 3) := by decide +kernel
theorem dc_jdk_42_method_54_code_9 : decode jdk_42_method_54_code 9 = .ok (.ishr, 1) := by decide +kernel
theorem dc_jdk_42_method_54_code_10 : decode jdk_42_method_54_code 10 = .ok (.ireturn, 1) := by decide +kernel
theorem dc_jdk_42_method_149_code_8 : decode jdk_42_method_149_code 8 = .ok (.aload_n 0, 1) := by decide +kernel
theorem dc_jdk_42_method_149_code_9 : decode jdk_42_method_149_code 9 = .ok (.ldc 7, 2) := by decide +kernel
theorem dc_jdk_42_method_149_code_11 : decode jdk_42_method_149_code 11 = .ok (.getfield 9, 3) := by decide +kernel
theorem dc_jdk_42_method_149_code_14 : decode jdk_42_method_149_code 14 = .ok (.putfield 9, 3) := by decide +kernel
theorem dc_jdk_42_method_149_code_17 : decode jdk_42_method_149_code 17 = .ok (.aload_n 0, 1) := by decide +kernel
theorem dc_jdk_42_method_149_code_18 : decode jdk_42_method_149_code 18 = .ok (.ldc 7, 2) := by decide +kernel
theorem dc_jdk_42_method_149_code_20 : decode jdk_42_method_149_code 20 = .ok (.getfield 15, 3) := by decide +kernel
theorem dc_jdk_42_method_149_code_23 : decode jdk_42_method_149_code 23 = .ok (.putfield 15, 3) := by decide +kernel
theorem dc_jdk_42_method_149_code_26 : decode jdk_42_method_149_code 26 = .ok (.return_, 1) := by decide +kernel
theorem dc_method_2_code_0 : decode method_2_code 0 = .ok (.iload_n 0, 1) := by decide +kernel
theorem dc_method_2_code_1 : decode method_2_code 1 = .ok (.bipush 65, 2) := by decide +kernel
theorem dc_method_2_code_3 : decode method_2_code 3 = .ok (.if_icmp .lt 15, 3) := by decide +kernel
theorem dc_method_2_code_18 : decode method_2_code 18 = .ok (.iload_n 0, 1) := by decide +kernel
theorem dc_method_2_code_19 : decode method_2_code 19 = .ok (.ireturn, 1) := by decide +kernel
theorem dc_method_2_code_6 : decode method_2_code 6 = .ok (.iload_n 0, 1) := by decide +kernel
theorem dc_method_2_code_7 : decode method_2_code 7 = .ok (.bipush 90, 2) := by decide +kernel
theorem dc_method_2_code_9 : decode method_2_code 9 = .ok (.if_icmp .gt 9, 3) := by decide +kernel
theorem dc_method_2_code_12 : decode method_2_code 12 = .ok (.iload_n 0, 1) := by decide +kernel
theorem dc_method_2_code_13 : decode method_2_code 13 = .ok (.bipush 32, 2) := by decide +kernel
theorem dc_method_2_code_15 : decode method_2_code 15 = .ok (.ior, 1) := by decide +kernel
theorem dc_method_2_code_16 : decode method_2_code 16 = .ok (.i2c, 1) := by decide +kernel
theorem dc_method_2_code_17 : decode method_2_code 17 = .ok (.ireturn, 1) := by decide +kernel
theorem dc_method_3_code_0 : decode method_3_code 0 = .ok (.iload_n 2, 1) := by decide +kernel
theorem dc_method_3_code_1 : decode method_3_code 1 = .ok (.aload_n 1, 1) := by decide +kernel
theorem dc_method_3_code_2 : decode method_3_code 2 = .ok (.arraylength, 1) := by decide +kernel
theorem dc_method_3_code_3 : decode method_3_code 3 = .ok (.if_icmp .lt 5, 3) := by decide +kernel
theorem dc_method_3_code_8 : decode method_3_code 8 = .ok (.aload_n 0, 1) := by decide +kernel
theorem dc_method_3_code_9 : decode method_3_code 9 = .ok (.iload_n 2, 1) := by decide +kernel
theorem dc_method_3_code_10 : decode method_3_code 10 = .ok (.invokevirtual 7, 3) := by decide +kernel
theorem dc_method_3_code_13 : decode method_3_code 13 = .ok (.aload_n 1, 1) := by decide +kernel
theorem dc_method_3_code_14 : decode method_3_code 14 = .ok (.iload_n 2, 1) := by decide +kernel
theorem dc_method_3_code_15 : decode method_3_code 15 = .ok (.caload, 1) := by decide +kernel
theorem dc_method_3_code_16 : decode method_3_code 16 = .ok (.invokestatic 13, 3) := by decide +kernel
theorem dc_method_3_code_19 : decode method_3_code 19 = .ok (.if_icmp .ne 7, 3) := by decide +kernel
theorem dc_method_3_code_22 : decode method_3_code 22 = .ok (.iconst 1, 1) := by decide +kernel
theorem dc_method_3_code_23 : decode method_3_code 23 = .ok (.goto 4, 3) := by decide +kernel
theorem dc_method_3_code_27 : decode method_3_code 27 = .ok (.ireturn, 1) := by decide +kernel
theorem dc_method_3_code_6 : decode method_3_code 6 = .ok (.iconst 1, 1) := by decide +kernel
theorem dc_method_3_code_7 : decode method_3_code 7 = .ok (.ireturn, 1) := by decide +kernel
theorem dc_prog_16_method_5_code_0 : decode prog_16_method_5_code 0 = .ok (.aload_n 0, 1) := by decide +kernel
theorem dc_prog_16_method_5_code_1 : decode prog_16_method_5_code 1 = .ok (.invokevirtual 54, 3) := by decide +kernel
theorem dc_prog_16_method_5_code_4 : decode prog_16_method_5_code 4 = .ok (.astore_n 1, 1) := by decide +kernel
theorem dc_prog_16_method_5_code_5 : decode prog_16_method_5_code 5 = .ok (.iconst 0, 1) := by decide +kernel
theorem dc_prog_16_method_5_code_6 : decode prog_16_method_5_code 6 = .ok (.istore_n 2, 1) := by decide +kernel
theorem dc_prog_16_method_5_code_7 : decode prog_16_method_5_code 7 = .ok (.iload_n 2, 1) := by decide +kernel
theorem dc_prog_16_method_5_code_8 : decode prog_16_method_5_code 8 = .ok (.aload_n 1, 1) := by decide +kernel
theorem dc_prog_16_method_5_code_9 : decode prog_16_method_5_code 9 = .ok (.arraylength, 1) := by decide +kernel
theorem dc_prog_16_method_5_code_10 : decode prog_16_method_5_code 10 = .ok (.if_icmp .ge 38, 3) := by decide +kernel
theorem dc_prog_16_method_5_code_48 : decode prog_16_method_5_code 48 = .ok (.new 29, 3) := by decide +kernel
theorem dc_prog_16_method_5_code_51 : decode prog_16_method_5_code 51 = .ok (.dup, 1) := by decide +kernel
theorem dc_prog_16_method_5_code_52 : decode prog_16_method_5_code 52 = .ok (.aload_n 1, 1) := by decide +kernel
theorem dc_prog_16_method_5_code_53 : decode prog_16_method_5_code 53 = .ok (.invokespecial 58, 3) := by decide +kernel
theorem dc_prog_16_method_5_code_56 : decode prog_16_method_5_code 56 = .ok (.areturn, 1) := by decide +kernel
theorem dc_prog_16_method_5_code_13 : decode prog_16_method_5_code 13 = .ok (.aload_n 1, 1) := by decide +kernel
theorem dc_prog_16_method_5_code_14 : decode prog_16_method_5_code 14 = .ok (.iload_n 2, 1) := by decide +kernel
theorem dc_prog_16_method_5_code_15 : decode prog_16_method_5_code 15 = .ok (.caload, 1) := by decide +kernel
theorem dc_prog_16_method_5_code_16 : decode prog_16_method_5_code 16 = .ok (.bipush 65, 2) := by decide +kernel
theorem dc_prog_16_method_5_code_18 : decode prog_16_method_5_code 18 = .ok (.if_icmp .lt 24, 3) := by decide +kernel
theorem dc_prog_16_method_5_code_42 : decode prog_16_method_5_code 42 = .ok (.iinc 2 1, 3) := by decide +kernel
theorem dc_prog_16_method_5_code_45 : decode prog_16_method_5_code 45 = .ok (.goto (-38), 3) := by decide +kernel
theorem dc_prog_16_method_5_code_21 : decode prog_16_method_5_code 21 = .ok (.aload_n 1, 1) := by decide +kernel
theorem dc_prog_16_method_5_code_22 : decode prog_16_method_5_code 22 = .ok (.iload_n 2, 1) := by decide +kernel
theorem dc_prog_16_method_5_code_23 : decode prog_16_method_5_code 23 = .ok (.caload, 1) := by decide +kernel
theorem dc_prog_16_method_5_code_24 : decode prog_16_method_5_code 24 = .ok (.bipush 90, 2) := by decide +kernel
theorem dc_prog_16_method_5_code_26 : decode prog_16_method_5_code 26 = .ok (.if_icmp .gt 16, 3) := by decide +kernel
theorem dc_prog_16_method_5_code_29 : decode prog_16_method_5_code 29 = .ok (.aload_n 1, 1) := by decide +kernel
theorem dc_prog_16_method_5_code_30 : decode prog_16_method_5_code 30 = .ok (.iload_n 2, 1) := by decide +kernel
theorem dc_prog_16_method_5_code_31 : decode prog_16_method_5_code 31 = .ok (.aload_n 1, 1) := by decide +kernel
theorem dc_prog_16_method_5_code_32 : decode prog_16_method_5_code 32 = .ok (.iload_n 2, 1) := by decide +kernel
theorem dc_prog_16_method_5_code_33 : decode prog_16_method_5_code 33 = .ok (.caload, 1) := by decide +kernel
theorem dc_prog_16_method_5_code_34 : decode prog_16_method_5_code 34 = .ok (.bipush 65, 2) := by decide +kernel
theorem dc_prog_16_method_5_code_36 : decode prog_16_method_5_code 36 = .ok (.isub, 1) := by decide +kernel
theorem dc_prog_16_method_5_code_37 : decode prog_16_method_5_code 37 = .ok (.bipush 97, 2) := by decide +kernel
theorem dc_prog_16_method_5_code_39 : decode prog_16_method_5_code 39 = .ok (.iadd, 1) := by decide +kernel
theorem dc_prog_16_method_5_code_40 : decode prog_16_method_5_code 40 = .ok (.i2c, 1) := by decide +kernel
theorem dc_prog_16_method_5_code_41 : decode prog_16_method_5_code 41 = .ok (.castore, 1) := by decide +kernel
theorem pd_0 : parseMethodDescriptor "(I)I" = some ⟨[.int], some .int⟩ := by decide +kernel
theorem pd_1 : parseMethodDescriptor "(I)[B" = some ⟨[.int], some (.array .byte)⟩ := by decide +kernel
theorem pd_2 : parseMethodDescriptor "([BII)V" = some ⟨[(.array .byte), .int, .int], none⟩ := by decide +kernel
theorem pd_3 : parseMethodDescriptor "([CI[BII)I" = some ⟨[(.array .char), .int, (.array .byte), .int, .int], some .int⟩ := by decide +kernel
theorem pd_4 : parseMethodDescriptor "([CII)[B" = some ⟨[(.array .char), .int, .int], some (.array .byte)⟩ := by decide +kernel
theorem pd_5 : parseMethodDescriptor "([BI)C" = some ⟨[(.array .byte), .int], some .char⟩ := by decide +kernel
theorem pd_6 : parseMethodDescriptor "([BI)B" = some ⟨[(.array .byte), .int], some .byte⟩ := by decide +kernel
theorem pd_7 : parseMethodDescriptor "([CIILjava/lang/Void;)V" = some ⟨[(.array .char), .int, .int, (.object "java/lang/Void")], none⟩ := by decide +kernel
theorem pd_8 : parseMethodDescriptor "(IILjava/util/function/BiFunction;)I" = some ⟨[.int, .int, (.object "java/util/function/BiFunction")], some .int⟩ := by decide +kernel
theorem pd_9 : parseMethodDescriptor "([B)I" = some ⟨[(.array .byte)], some .int⟩ := by decide +kernel
theorem pd_10 : parseMethodDescriptor "(II)V" = some ⟨[.int, .int], none⟩ := by decide +kernel
theorem pd_11 : parseMethodDescriptor "(I[B)V" = some ⟨[.int, (.array .byte)], none⟩ := by decide +kernel
theorem pd_12 : parseMethodDescriptor "()Z" = some ⟨[], some .boolean⟩ := by decide +kernel
theorem pd_13 : parseMethodDescriptor "(IIILjava/util/function/BiFunction;)I" = some ⟨[.int, .int, .int, (.object "java/util/function/BiFunction")], some .int⟩ := by decide +kernel
theorem pd_14 : parseMethodDescriptor "(III)I" = some ⟨[.int, .int, .int], some .int⟩ := by decide +kernel
theorem pd_15 : parseMethodDescriptor "(II[B)V" = some ⟨[.int, .int, (.array .byte)], none⟩ := by decide +kernel
theorem pd_16 : parseMethodDescriptor "([BI[CII)V" = some ⟨[(.array .byte), .int, (.array .char), .int, .int], none⟩ := by decide +kernel
theorem pd_17 : parseMethodDescriptor "([BII[CI)V" = some ⟨[(.array .byte), .int, .int, (.array .char), .int], none⟩ := by decide +kernel
theorem pd_18 : parseMethodDescriptor "([B)[C" = some ⟨[(.array .byte)], some (.array .char)⟩ := by decide +kernel
theorem pd_19 : parseMethodDescriptor "()B" = some ⟨[], some .byte⟩ := by decide +kernel
theorem pd_20 : parseMethodDescriptor "(I)C" = some ⟨[.int], some .char⟩ := by decide +kernel
theorem pd_21 : parseMethodDescriptor "(C)C" = some ⟨[.char], some .char⟩ := by decide +kernel
theorem pd_22 : parseMethodDescriptor "()[C" = some ⟨[], some (.array .char)⟩ := by decide +kernel
theorem pd_23 : parseMethodDescriptor "([C)V" = some ⟨[(.array .char)], none⟩ := by decide +kernel
theorem pd_24 : parseMethodDescriptor "(Ljava/lang/String;)Ljava/lang/String;" = some ⟨[(.object "java/lang/String")], some (.object "java/lang/String")⟩ := by decide +kernel
theorem pd_25 : parseMethodDescriptor "()I" = some ⟨[], some .int⟩ := by decide +kernel
theorem pd_26 : parseMethodDescriptor "(Ljava/lang/String;[CI)Z" = some ⟨[(.object "java/lang/String"), (.array .char), .int], some .boolean⟩ := by decide +kernel

def fo (c : Int32) : Int32 := if c < 65 then c else if 90 < c then c else c + 32
theorem fo_lo {c : Int32} (h : c < 65) : fo c = c := by simp [fo, h]
theorem fo_hi {c : Int32} (h : (90 : Int32) < c) : fo c = c := by simp [fo, h]
theorem fo_all : ∀ n : Fin 26, nar .char ((Int32.ofNat (65 + n.val) - 65 + 97).toUInt32.toUInt16.toUInt32.toInt32) = Int32.ofNat (65 + n.val) + 32 ∧ nar .char ((Int32.ofNat (65 + n.val) ||| 32).toUInt32.toUInt16.toUInt32.toInt32) = Int32.ofNat (65 + n.val) + 32 ∧ ¬ (Int32.ofNat (65 + n.val) + 32) < 0 ∧ ¬ (65535 : Int32) < (Int32.ofNat (65 + n.val) + 32) := by decide
theorem fo_mid {c : Int32} (h : ¬ c < 65) (g : ¬ (90 : Int32) < c) : nar .char ((c - 65 + 97).toUInt32.toUInt16.toUInt32.toInt32) = fo c ∧ nar .char ((c ||| 32).toUInt32.toUInt16.toUInt32.toInt32) = fo c ∧ ¬ fo c < 0 ∧ ¬ (65535 : Int32) < fo c := by
  have e : fo c = c + 32 := by simp [fo, h, g]
  have h1 : (65 : Int32).toInt = 65 := by decide
  have h2 : (90 : Int32).toInt = 90 := by decide
  rw [Int32.lt_iff_toInt_lt, h1] at h
  rw [Int32.lt_iff_toInt_lt, h2] at g
  have hc : c = Int32.ofNat (65 + (c.toInt - 65).toNat) := by
    apply Int32.toInt_inj.mp
    rw [i32_toInt (by omega)]
    omega
  have q := fo_all ⟨(c.toInt - 65).toNat, by omega⟩
  simp only [← hc] at q
  rw [e]
  exact q
theorem fo_rng {c : Int32} (r0 : ¬ c < 0) (r1 : ¬ (65535 : Int32) < c) : ¬ fo c < 0 ∧ ¬ (65535 : Int32) < fo c := by
  by_cases h : c < 65
  · rw [fo_lo h]; exact ⟨r0, r1⟩
  · by_cases g : (90 : Int32) < c
    · rw [fo_hi g]; exact ⟨r0, r1⟩
    · exact ⟨(fo_mid h g).2.2.1, (fo_mid h g).2.2.2⟩
theorem fo_rngs {cs : List Int32} (h : ∀ c ∈ cs, ¬ c < 0 ∧ ¬ (65535 : Int32) < c) : ∀ c ∈ cs.map fo, ¬ c < 0 ∧ ¬ (65535 : Int32) < c := by
  intro c hc
  obtain ⟨x, hx, rfl⟩ := List.mem_map.mp hc
  exact fo_rng (h x hx).1 (h x hx).2
theorem fo_set (pre rest : List Int32) (c : Int32) : (vC (pre.map fo ++ c :: rest)).set pre.length (.int (fo c)) = vC ((pre ++ [c]).map fo ++ rest) := by
  have e : ((pre.map fo).map Value.int).length = pre.length := by simp
  unfold vC
  rw [List.map_append, ← e, List.set_append_right _ _ (Nat.le_refl _)]
  simp
theorem fo_same {pre rest : List Int32} {c : Int32} (h : fo c = c) : vC (pre.map fo ++ c :: rest) = vC ((pre ++ [c]).map fo ++ rest) := by simp [h]
theorem own_mod (x d : Int32) (D : Int) (hd : d.toInt = D) (hD : 0 < D) : 0 ≤ ((x &&& 2147483647) % d).toInt ∧ ((x &&& 2147483647) % d).toInt < D := by
  have h := c_and x 2147483647 (by decide)
  have q := (c_irem (x &&& 2147483647) d D hd).1 h.1
  rw [q]
  exact ⟨Int.emod_nonneg _ (by omega), Int.emod_lt_of_pos _ hD⟩
theorem own_lt5 {z : Int32} (h : 0 ≤ z.toInt ∧ z.toInt < 5) : z = 0 ∨ z = 1 ∨ z = 2 ∨ z = 3 ∨ z = 4 := by
  have e : z.toInt = 0 ∨ z.toInt = 1 ∨ z.toInt = 2 ∨ z.toInt = 3 ∨ z.toInt = 4 := by omega
  rcases e with e | e | e | e | e
  · exact Or.inl (Int32.toInt_inj.mp e)
  · exact Or.inr (Or.inl (Int32.toInt_inj.mp e))
  · exact Or.inr (Or.inr (Or.inl (Int32.toInt_inj.mp e)))
  · exact Or.inr (Or.inr (Or.inr (Or.inl (Int32.toInt_inj.mp e))))
  · exact Or.inr (Or.inr (Or.inr (Or.inr (Int32.toInt_inj.mp e))))
theorem own_i2c (x : Int32) : ¬ x.toUInt32.toUInt16.toUInt32.toInt32 < 0 ∧ ¬ (65535 : Int32) < x.toUInt32.toUInt16.toUInt32.toInt32 := rng_char (fits_nar_char x)

set_option maxRecDepth 65536 in
set_option maxHeartbeats 40000000 in
theorem st_cmp5 {l : Launch} {Z : State} {a0 : Array Value} (hw : ∀ d ∈ tables_1, d.before a0 Z = true) (a b : Addr) (ka kb : ClassId) (cs : List Int32) (d : Value) (h0 : Heap) (A1 : Arv Z h0 a ka .char (Int32.ofNat cs.length) (vC cs) d) (B1 : Arv Z h0 b kb .byte (Int32.ofNat cs.length) [] (.int 0)) (hab : a ≠ b) (gb : Z.heap.size ≤ b) (hn : cs.length ≤ 4000) :
    Met l Z (⟨"java/lang/StringUTF16", "compress", "([CI[BII)I"⟩ : MethodName) jdk_52_method_21_code 7 (some .int) false [] ({ frames := 0, cells := 0, slots := 0, locals := 0 } : Room) #[(.ref a), (.int (0 : Int32)), (.ref b), (.int (0 : Int32)), (.int (Int32.ofNat cs.length))] h0 (false, [], []) (fun v h J => v = some (.int (Int32.ofNat (lat cs).length)) ∧ Keep h0 h [b] ∧ Arv Z h b kb .byte (Int32.ofNat cs.length) (vL (lat cs)) (.int 0)) := by
  refine Met.of_goes (Ls := #[.val (.ref a), .val (.int (0 : Int32)), .val (.ref b), .val (.int (0 : Int32)), .val (.int (Int32.ofNat cs.length)), .unset, .unset]) (by first | exact plainFor_of_name (by first | (simp [plainName, overriddenIn]; done) | decide +kernel) | decide +kernel) (fun m => by first | (simp [entryFrame, mkF, argsToLocals, Value.category]; done) | rfl) rfl (fun G hGl => ?_)
  subst hGl
  refine Wlk.iconst (pc' := 1) (v := (0 : Int32)) dc_jdk_52_method_21_code_0 rfl rfl ?_
  refine Wlk.istore (pc' := 3) (Ls' := #[.val (.ref a), .val (.int (0 : Int32)), .val (.ref b), .val (.int (0 : Int32)), .val (.int (Int32.ofNat cs.length)), .val (.int (0 : Int32)), .unset]) dc_jdk_52_method_21_code_1 rfl rfl rfl ?_
  have loop : ∀ (rest pre : List Int32) (h : Heap) (o6 : Slot), One o6 → cs = pre ++ rest → (∀ c ∈ pre, ¬ (255 : Int32) < c) → Keep h0 h [b] → Arv Z h b kb .byte (Int32.ofNat cs.length) (vL pre) (.int 0) → Wlk G ({ frames := 0, cells := 0, slots := 0, locals := 0 } : Room) Z (⟨"java/lang/StringUTF16", "compress", "([CI[BII)I"⟩ : MethodName) jdk_52_method_21_code (some .int) false (false, [], []) (fun v h J => v = some (.int (Int32.ofNat (lat cs).length)) ∧ Keep h0 h [b] ∧ Arv Z h b kb .byte (Int32.ofNat cs.length) (vL (lat cs)) (.int 0)) h 0 0 3 #[.val (.ref a), .val (.int (Int32.ofNat pre.length)), .val (.ref b), .val (.int (Int32.ofNat pre.length)), .val (.int (Int32.ofNat cs.length)), .val (.int (Int32.ofNat pre.length)), o6] [] := by
    intro rest
    induction rest with
    | nil =>
      intro pre h o6 ho hcs hp K B
      rw [List.append_nil] at hcs
      subst hcs
      refine Wlk.iload (pc' := 5) (v := (Int32.ofNat cs.length)) dc_jdk_52_method_21_code_3 rfl rfl ?_
      refine Wlk.iload (pc' := 7) (v := (Int32.ofNat cs.length)) dc_jdk_52_method_21_code_5 rfl rfl ?_
      refine Wlk.icT (pc' := 44) dc_jdk_52_method_21_code_7 (by decide) (by decide) (show ¬ ((Int32.ofNat cs.length) < (Int32.ofNat cs.length)) from (fun q => absurd ((i32_lt (by omega) (by omega)).mp q) (Nat.lt_irrefl _))) ?_
      refine Wlk.iload (pc' := 46) (v := (Int32.ofNat cs.length)) dc_jdk_52_method_21_code_44 rfl rfl ?_
      refine Wlk.ireturnI dc_jdk_52_method_21_code_46 rfl (by decide) (by decide) ?_
      exact ⟨by rw [lat_all hp], K, by rw [lat_all hp]; exact B⟩
    | cons c rest ih =>
      intro pre h o6 ho hcs hp K B
      have hl : cs.length = pre.length + (rest.length + 1) := by rw [hcs]; simp
      have A := A1.keep K (ninS hab nin0)
      have B2 := B.pad (pad_rep _ _ 1)
      refine Wlk.iload (pc' := 5) (v := (Int32.ofNat pre.length)) dc_jdk_52_method_21_code_3 rfl rfl ?_
      refine Wlk.iload (pc' := 7) (v := (Int32.ofNat cs.length)) dc_jdk_52_method_21_code_5 rfl rfl ?_
      refine Wlk.icF (pc' := 10) dc_jdk_52_method_21_code_7 (show (Int32.ofNat pre.length) < (Int32.ofNat cs.length) from ((i32_lt (by omega) (by omega)).mpr (by omega))) rfl ?_
      refine Wlk.aloadN (pc' := 11) (v := (.ref a)) dc_jdk_52_method_21_code_10 rfl rfl rfl ?_
      refine Wlk.iloadN (pc' := 12) (v := (Int32.ofNat pre.length)) dc_jdk_52_method_21_code_11 rfl rfl ?_
      refine Wlk.caload (pc' := 13) (v := (.int c)) dc_jdk_52_method_21_code_12 A ⟨i32_nn (by omega), (i32_lt (by omega) (by omega)).mpr (by omega)⟩ (by rw [i32_cl (by omega), hcs]; simp [vC]) rfl ?_
      refine Wlk.istore (pc' := 15) (Ls' := #[.val (.ref a), .val (.int (Int32.ofNat pre.length)), .val (.ref b), .val (.int (Int32.ofNat pre.length)), .val (.int (Int32.ofNat cs.length)), .val (.int (Int32.ofNat pre.length)), .val (.int c)]) dc_jdk_52_method_21_code_13 (XS.store1 (o := o6) rfl ho rfl) rfl rfl ?_
      refine Wlk.iload (pc' := 17) (v := c) dc_jdk_52_method_21_code_15 rfl rfl ?_
      refine Wlk.sipush (pc' := 20) (v := (255 : Int32)) dc_jdk_52_method_21_code_17 (by decide) rfl ?_
      refine Wlk.ic_ (pcT := 26) (pcF := 23) dc_jdk_52_method_21_code_20 (by decide) (by decide) rfl (fun (hc1 : ¬ ((255 : Int32) < c)) => ?_) (fun (hc1 : (255 : Int32) < c) => ?_)
      · skip
        refine Wlk.aloadN (pc' := 27) (v := (.ref b)) dc_jdk_52_method_21_code_26 rfl rfl rfl ?_
        refine Wlk.iloadN (pc' := 28) (v := (Int32.ofNat pre.length)) dc_jdk_52_method_21_code_27 rfl rfl ?_
        refine Wlk.iload (pc' := 30) (v := c) dc_jdk_52_method_21_code_28 rfl rfl ?_
        refine Wlk.i2b (pc' := 31) dc_jdk_52_method_21_code_30 rfl ?_
        refine Wlk.bastore (pc' := 32) (i := pre.length) dc_jdk_52_method_21_code_31 B2 ⟨i32_nn (by omega), (i32_lt (by omega) (by omega)).mpr (by omega)⟩ (i32_cl (by omega)) (by simp [vL]) gb rfl (fun h2 W3 A4 => ?_)
        refine Wlk.iinc (pc' := 35) (v := (1 : Int32)) (x := (Int32.ofNat pre.length)) (Ls' := #[.val (.ref a), .val (.int ((Int32.ofNat pre.length) + (1 : Int32))), .val (.ref b), .val (.int (Int32.ofNat pre.length)), .val (.int (Int32.ofNat cs.length)), .val (.int (Int32.ofNat pre.length)), .val (.int c)]) dc_jdk_52_method_21_code_32 (by decide) rfl rfl rfl rfl ?_
        refine Wlk.iinc (pc' := 38) (v := (1 : Int32)) (x := (Int32.ofNat pre.length)) (Ls' := #[.val (.ref a), .val (.int ((Int32.ofNat pre.length) + (1 : Int32))), .val (.ref b), .val (.int ((Int32.ofNat pre.length) + (1 : Int32))), .val (.int (Int32.ofNat cs.length)), .val (.int (Int32.ofNat pre.length)), .val (.int c)]) dc_jdk_52_method_21_code_35 (by decide) rfl rfl rfl rfl ?_
        refine Wlk.iinc (pc' := 41) (v := (1 : Int32)) (x := (Int32.ofNat pre.length)) (Ls' := #[.val (.ref a), .val (.int ((Int32.ofNat pre.length) + (1 : Int32))), .val (.ref b), .val (.int ((Int32.ofNat pre.length) + (1 : Int32))), .val (.int (Int32.ofNat cs.length)), .val (.int ((Int32.ofNat pre.length) + (1 : Int32))), .val (.int c)]) dc_jdk_52_method_21_code_38 (by decide) rfl rfl rfl rfl ?_
        refine Wlk.goto (pc' := 3) dc_jdk_52_method_21_code_41 (by decide) (by decide) ?_
        have e1 : Int32.ofNat pre.length + 1 = Int32.ofNat (pre ++ [c]).length := by rw [i32_succ]; simp
        rw [e1]
        refine ih (pre ++ [c]) _ _ (One.val rfl) (by rw [hcs]; simp) (fun x hx => ?_) (K.wr W3 (Or.inl (List.mem_of_getElem? (i := 0) rfl))) (set_vL pre c ▸ A4)
        rcases List.mem_append.mp hx with hx | hx
        · exact hp x hx
        · rw [List.mem_singleton.mp hx]; exact hc1
      · skip
        refine Wlk.iload (pc' := 25) (v := (Int32.ofNat pre.length)) dc_jdk_52_method_21_code_23 rfl rfl ?_
        refine Wlk.ireturnI dc_jdk_52_method_21_code_25 rfl (by decide) (by decide) ?_
        have el : lat cs = pre := by rw [hcs, lat_app hp, lat_stop hc1, List.append_nil]
        exact ⟨by rw [el], K, by rw [el]; exact B⟩
  exact loop cs [] h0 .unset One.u rfl (fun _ q => nomatch q) (Keep.refl _ _) B1

set_option maxRecDepth 65536 in
set_option maxHeartbeats 40000000 in
theorem st_nbl {l : Launch} {Z : State} {a0 : Array Value} (hw : ∀ d ∈ tables_1, d.before a0 Z = true) (n : Nat) (h0 : Heap) (hn : n ≤ 4000) :
    Met l Z (⟨"java/lang/StringUTF16", "newBytesLength", "(I)I"⟩ : MethodName) jdk_52_method_3_code 1 (some .int) false [] ({ frames := 0, cells := 0, slots := 0, locals := 0 } : Room) #[(.int (Int32.ofNat n))] h0 (false, [], []) (fun v h J' => v = some (.int (Int32.ofNat (2 * n))) ∧ h0 = h) := by
  refine Met.of_goes (Ls := #[.val (.int (Int32.ofNat n))]) (by first | exact plainFor_of_name (by first | (simp [plainName, overriddenIn]; done) | decide +kernel) | decide +kernel) (fun m => by first | (simp [entryFrame, mkF, argsToLocals, Value.category]; done) | rfl) rfl (fun G hGl => ?_)
  subst hGl
  refine Wlk.iloadN (pc' := 1) (v := (Int32.ofNat n)) dc_jdk_52_method_3_code_0 rfl rfl ?_
  refine Wlk.ifT (pc' := 12) dc_jdk_52_method_3_code_1 (by decide) (by decide) (show ¬ ((Int32.ofNat n) < (0 : Int32)) from (i32_nn (by omega))) ?_
  refine Wlk.iloadN (pc' := 13) (v := (Int32.ofNat n)) dc_jdk_52_method_3_code_12 rfl rfl ?_
  refine Wlk.ldcI (pc' := 15) (v := (1073741823 : Int32)) dc_jdk_52_method_3_code_13 (hw _ (List.mem_of_getElem? (i := 97) rfl)) rfl ?_
  refine Wlk.icT (pc' := 55) dc_jdk_52_method_3_code_15 (by decide) (by decide) (show (Int32.ofNat n) < (1073741823 : Int32) from ((i32_lt (j := 1073741823) (by omega) (by omega)).mpr (by omega))) ?_
  refine Wlk.iloadN (pc' := 56) (v := (Int32.ofNat n)) dc_jdk_52_method_3_code_55 rfl rfl ?_
  refine Wlk.iconst (pc' := 57) (v := (1 : Int32)) dc_jdk_52_method_3_code_56 rfl rfl ?_
  refine Wlk.ishl (pc' := 58) dc_jdk_52_method_3_code_57 rfl ?_
  refine Wlk.ireturnI dc_jdk_52_method_3_code_58 rfl (by decide) (by decide) ?_
  exact ⟨(by rw [i32_shl1 _ (by omega)]), rfl⟩

set_option maxRecDepth 65536 in
set_option maxHeartbeats 40000000 in
theorem st_nbf {l : Launch} {Z : State} {a0 : Array Value} (hw : ∀ d ∈ tables_1, d.before a0 Z = true) (n : Nat) (h0 : Heap) (hn : n ≤ 4) :
    Met l Z (⟨"java/lang/StringUTF16", "newBytesFor", "(I)[B"⟩ : MethodName) jdk_52_method_2_code 1 (some (.array .byte)) false [] ({ frames := 1, cells := 1, slots := 8, locals := 12 } : Room) #[(.int (Int32.ofNat n))] h0 (false, [], []) (fun v h J' => ∃ (t : Addr) (kb : ClassId), v = some (.ref t) ∧ h0.size ≤ t ∧ Z.heap.size ≤ t ∧ Keep h0 h [] ∧ Arv Z h t kb .byte (Int32.ofNat (2 * n)) [] (.int 0)) := by
  refine Met.of_goes (Ls := #[.val (.int (Int32.ofNat n))]) (by first | exact plainFor_of_name (by first | (simp [plainName, overriddenIn]; done) | decide +kernel) | decide +kernel) (fun m => by first | (simp [entryFrame, mkF, argsToLocals, Value.category]; done) | rfl) rfl (fun G hGl => ?_)
  subst hGl
  refine Wlk.iloadN (pc' := 1) (v := (Int32.ofNat n)) dc_jdk_52_method_2_code_0 rfl rfl ?_
  refine Wlk.callS (pc' := 4) (z := (⟨"java/lang/StringUTF16", "newBytesLength", "(I)I"⟩ : MethodName)) (argsL := [(.int (Int32.ofNat n))]) (st := []) (W := 0) dc_jdk_52_method_2_code_1 (hw _ (List.mem_of_getElem? (i := 94) rfl)) (hw _ (List.mem_of_getElem? (i := 95) rfl)) (hw _ (List.mem_of_getElem? (i := 19) rfl)) (hw _ (List.mem_of_getElem? (i := 96) rfl)) (by decide) pd_0 rfl (st_nbl hw n h0 (by omega)) (by decide) rfl (by decide) (by decide) (by decide) rfl rfl (fun v5 h6 J7 q8 => ?_)
  obtain ⟨rfl, rfl⟩ := q8
  show Wlk _ _ _ _ _ _ _ _ _ h0 0 0 4 #[.val (.int (Int32.ofNat n))] [(.int (Int32.ofNat (2 * n)))]
  refine Wlk.newP (pc' := 6) (ty := .byte) (cap := 8) dc_jdk_52_method_2_code_4 rfl (hw _ (List.mem_of_getElem? (i := 21) rfl)) (i32_nn (by omega)) (by rw [i32_cl (by omega)]; omega) (by decide) (by decide) (by decide) rfl (fun b9 h10 kc11 le12 g13 E14 A15 => ?_)
  refine Wlk.areturn (t := (.array .byte)) dc_jdk_52_method_2_code_6 rfl rfl rfl rfl (by decide) (by decide) ?_
  exact ⟨b9, kc11, rfl, (Nat.le_trans (Nat.le_refl _) le12), g13, ((Keep.refl h0 []).ext E14), A15⟩

set_option maxRecDepth 65536 in
set_option maxHeartbeats 40000000 in
theorem st_put {l : Launch} {Z : State} {a0 : Array Value} (hw : ∀ d ∈ tables_1, d.before a0 Z = true) (t : Addr) (i : Nat) (c : Int32) (kb : ClassId) (m : Nat) (vs : List Value) (h0 : Heap) (q0_Sta : Sta Z Z.heap "java/lang/StringUTF16" "$assertionsDisabled" "Z" (.int (1 : Int32))) (q1_Sta : Sta Z Z.heap "java/lang/StringUTF16" "HI_BYTE_SHIFT" "I" (.int (0 : Int32))) (q2_Sta : Sta Z Z.heap "java/lang/StringUTF16" "LO_BYTE_SHIFT" "I" (.int (8 : Int32))) (q3_A : Arv Z h0 t kb .byte (Int32.ofNat m) vs (.int 0)) (q4_G : Z.heap.size ≤ t) (hi : 2 * i + 1 < vs.length) (hvm : vs.length ≤ m) (hm : m ≤ 10000) :
    Met l Z (⟨"java/lang/StringUTF16", "putChar", "([BII)V"⟩ : MethodName) jdk_52_method_4_code 3 none false [] ({ frames := 0, cells := 0, slots := 0, locals := 0 } : Room) #[(.ref t), (.int (Int32.ofNat i)), (.int c)] h0 (false, [], []) (fun v h J' => v = none ∧ Keep h0 h [t] ∧ Arv Z h t kb .byte (Int32.ofNat m) (List.set (List.set vs (2 * i) (.int (bL c))) (2 * i + 1) (.int (bH c))) (.int 0)) := by
  refine Met.of_goes (Ls := #[.val (.ref t), .val (.int (Int32.ofNat i)), .val (.int c)]) (by first | exact plainFor_of_name (by first | (simp [plainName, overriddenIn]; done) | decide +kernel) | decide +kernel) (fun m => by first | (simp [entryFrame, mkF, argsToLocals, Value.category]; done) | rfl) rfl (fun G hGl => ?_)
  subst hGl
  refine Wlk.getS (pc' := 3) (v := (.int (1 : Int32))) dc_jdk_52_method_4_code_0 (hw _ (List.mem_of_getElem? (i := 101) rfl)) Via.refl q0_Sta rfl ?_
  refine Wlk.ifT (pc' := 28) dc_jdk_52_method_4_code_3 (by decide) (by decide) (show ¬ ((1 : Int32) = (0 : Int32)) from by decide) ?_
  refine Wlk.iloadN (pc' := 29) (v := (Int32.ofNat i)) dc_jdk_52_method_4_code_28 rfl rfl ?_
  refine Wlk.iconst (pc' := 30) (v := (1 : Int32)) dc_jdk_52_method_4_code_29 rfl rfl ?_
  refine Wlk.ishl (pc' := 31) dc_jdk_52_method_4_code_30 rfl ?_
  rw [i32_shl1 _ (by omega)]
  refine Wlk.istoreN (pc' := 32) (Ls' := #[.val (.ref t), .val (.int (Int32.ofNat (2 * i))), .val (.int c)]) dc_jdk_52_method_4_code_31 rfl rfl rfl ?_
  refine Wlk.aloadN (pc' := 33) (v := (.ref t)) dc_jdk_52_method_4_code_32 rfl rfl rfl ?_
  refine Wlk.iloadN (pc' := 34) (v := (Int32.ofNat (2 * i))) dc_jdk_52_method_4_code_33 rfl rfl ?_
  refine Wlk.iinc (pc' := 37) (v := (1 : Int32)) (x := (Int32.ofNat (2 * i))) (Ls' := #[.val (.ref t), .val (.int ((Int32.ofNat (2 * i)) + (1 : Int32))), .val (.int c)]) dc_jdk_52_method_4_code_34 (by decide) rfl rfl rfl rfl ?_
  rw [i32_succ]
  refine Wlk.iloadN (pc' := 38) (v := c) dc_jdk_52_method_4_code_37 rfl rfl ?_
  refine Wlk.getS (pc' := 41) (v := (.int (0 : Int32))) dc_jdk_52_method_4_code_38 (hw _ (List.mem_of_getElem? (i := 102) rfl)) Via.refl q1_Sta rfl ?_
  refine Wlk.ishr (pc' := 42) dc_jdk_52_method_4_code_41 rfl ?_
  refine Wlk.i2b (pc' := 43) dc_jdk_52_method_4_code_42 rfl ?_
  refine Wlk.bastore (pc' := 44) (i := (2 * i)) dc_jdk_52_method_4_code_43 q3_A ⟨i32_nn (by omega), (i32_lt (by omega) (by omega)).mpr (by omega)⟩ (i32_cl (by omega)) (by omega) q4_G rfl (fun h16 W17 A18 => ?_)
  rw [u_lo c] at A18
  refine Wlk.aloadN (pc' := 45) (v := (.ref t)) dc_jdk_52_method_4_code_44 rfl rfl rfl ?_
  refine Wlk.iloadN (pc' := 46) (v := (Int32.ofNat (2 * i + 1))) dc_jdk_52_method_4_code_45 rfl rfl ?_
  refine Wlk.iloadN (pc' := 47) (v := c) dc_jdk_52_method_4_code_46 rfl rfl ?_
  refine Wlk.getS (pc' := 50) (v := (.int (8 : Int32))) dc_jdk_52_method_4_code_47 (hw _ (List.mem_of_getElem? (i := 103) rfl)) Via.refl q2_Sta rfl ?_
  refine Wlk.ishr (pc' := 51) dc_jdk_52_method_4_code_50 rfl ?_
  refine Wlk.i2b (pc' := 52) dc_jdk_52_method_4_code_51 rfl ?_
  refine Wlk.bastore (pc' := 53) (i := (2 * i + 1)) dc_jdk_52_method_4_code_52 A18 ⟨i32_nn (by omega), (i32_lt (by omega) (by omega)).mpr (by omega)⟩ (i32_cl (by omega)) (by rw [List.length_set]; exact hi) q4_G rfl (fun h19 W20 A21 => ?_)
  rw [u_hi c] at A21
  refine Wlk.return_ dc_jdk_52_method_4_code_53 rfl (by decide) (by decide) ?_
  exact ⟨rfl, (((Keep.refl h0 [t]).wr W17 (Or.inl (List.mem_of_getElem? (i := 0) rfl))).wr W20 (Or.inl (List.mem_of_getElem? (i := 0) rfl))), A21⟩

set_option maxRecDepth 65536 in
set_option maxHeartbeats 40000000 in
theorem st_tob {l : Launch} {Z : State} {a0 : Array Value} (hw : ∀ d ∈ tables_1, d.before a0 Z = true) (a : Addr) (ka : ClassId) (cs : List Int32) (d : Value) (h0 : Heap) (q0_Sta : Sta Z Z.heap "java/lang/StringUTF16" "$assertionsDisabled" "Z" (.int (1 : Int32))) (q1_Sta : Sta Z Z.heap "java/lang/StringUTF16" "HI_BYTE_SHIFT" "I" (.int (0 : Int32))) (q2_Sta : Sta Z Z.heap "java/lang/StringUTF16" "LO_BYTE_SHIFT" "I" (.int (8 : Int32))) (A1 : Arv Z h0 a ka .char (Int32.ofNat cs.length) (vC cs) d) (hn : cs.length ≤ 4) :
    Met l Z (⟨"java/lang/StringUTF16", "toBytes", "([CII)[B"⟩ : MethodName) jdk_52_method_14_code 5 (some (.array .byte)) false [] ({ frames := 2, cells := 1, slots := 8, locals := 24 } : Room) #[(.ref a), (.int (0 : Int32)), (.int (Int32.ofNat cs.length))] h0 (false, [], []) (fun v h J => ∃ (t : Addr) (kb : ClassId), v = some (.ref t) ∧ h0.size ≤ t ∧ Z.heap.size ≤ t ∧ Keep h0 h [] ∧ Arv Z h t kb .byte (Int32.ofNat (2 * cs.length)) (vU cs) (.int 0)) := by
  refine Met.of_goes (Ls := #[.val (.ref a), .val (.int (0 : Int32)), .val (.int (Int32.ofNat cs.length)), .unset, .unset]) (by first | exact plainFor_of_name (by first | (simp [plainName, overriddenIn]; done) | decide +kernel) | decide +kernel) (fun m => by first | (simp [entryFrame, mkF, argsToLocals, Value.category]; done) | rfl) rfl (fun G hGl => ?_)
  subst hGl
  refine Wlk.iloadN (pc' := 1) (v := (Int32.ofNat cs.length)) dc_jdk_52_method_14_code_0 rfl rfl ?_
  refine Wlk.callS (pc' := 4) (z := (⟨"java/lang/StringUTF16", "newBytesFor", "(I)[B"⟩ : MethodName)) (argsL := [(.int (Int32.ofNat cs.length))]) (st := []) (W := 0) dc_jdk_52_method_14_code_1 (hw _ (List.mem_of_getElem? (i := 91) rfl)) (hw _ (List.mem_of_getElem? (i := 92) rfl)) (hw _ (List.mem_of_getElem? (i := 19) rfl)) (hw _ (List.mem_of_getElem? (i := 93) rfl)) (by decide) pd_1 rfl (st_nbf hw cs.length h0 (by omega)) (by decide) rfl (by decide) (by decide) (by decide) rfl rfl (fun v22 h23 J24 q25 => ?_)
  obtain ⟨t26, kb27, rfl, le28, g29, K30, n31⟩ := q25
  show Wlk _ _ _ _ _ _ _ _ _ h23 1 8 4 #[.val (.ref a), .val (.int (0 : Int32)), .val (.int (Int32.ofNat cs.length)), .unset, .unset] [(.ref t26)]
  refine Wlk.astoreN (pc' := 5) (Ls' := #[.val (.ref a), .val (.int (0 : Int32)), .val (.int (Int32.ofNat cs.length)), .val (.ref t26), .unset]) dc_jdk_52_method_14_code_4 rfl rfl rfl rfl ?_
  refine Wlk.iconst (pc' := 6) (v := (0 : Int32)) dc_jdk_52_method_14_code_5 rfl rfl ?_
  refine Wlk.istore (pc' := 8) (Ls' := #[.val (.ref a), .val (.int (0 : Int32)), .val (.int (Int32.ofNat cs.length)), .val (.ref t26), .val (.int (0 : Int32))]) dc_jdk_52_method_14_code_6 rfl rfl rfl ?_
  have c32 := (A1.keep K30 nin0)
  have hat : a ≠ t26 := (Nat.ne_of_lt (Nat.lt_of_lt_of_le A1.lt (Nat.le_trans (Nat.le_refl _) le28)))
  have K1 : Keep h0 h23 [] := ((Keep.refl h0 []).trans K30 all0)
  have le1 : h0.size ≤ t26 := (Nat.le_trans (Nat.le_refl _) le28)
  have loop : ∀ (rest pre : List Int32) (h : Heap), cs = pre ++ rest → Keep h23 h [t26] → Arv Z h t26 kb27 .byte (Int32.ofNat (2 * cs.length)) (vU pre) (.int 0) → Wlk G ({ frames := 2, cells := 1, slots := 8, locals := 24 } : Room) Z (⟨"java/lang/StringUTF16", "toBytes", "([CII)[B"⟩ : MethodName) jdk_52_method_14_code (some (.array .byte)) false (false, [], []) (fun v h J => ∃ (t : Addr) (kb : ClassId), v = some (.ref t) ∧ h0.size ≤ t ∧ Z.heap.size ≤ t ∧ Keep h0 h [] ∧ Arv Z h t kb .byte (Int32.ofNat (2 * cs.length)) (vU cs) (.int 0)) h 1 8 8 #[.val (.ref a), .val (.int (Int32.ofNat pre.length)), .val (.int (Int32.ofNat cs.length)), .val (.ref t26), .val (.int (Int32.ofNat pre.length))] [] := by
    intro rest
    induction rest with
    | nil =>
      intro pre h hcs K B
      rw [List.append_nil] at hcs
      subst hcs
      refine Wlk.iload (pc' := 10) (v := (Int32.ofNat cs.length)) dc_jdk_52_method_14_code_8 rfl rfl ?_
      refine Wlk.iloadN (pc' := 11) (v := (Int32.ofNat cs.length)) dc_jdk_52_method_14_code_10 rfl rfl ?_
      refine Wlk.icT (pc' := 32) dc_jdk_52_method_14_code_11 (by decide) (by decide) (show ¬ ((Int32.ofNat cs.length) < (Int32.ofNat cs.length)) from (fun q => absurd ((i32_lt (by omega) (by omega)).mp q) (Nat.lt_irrefl _))) ?_
      refine Wlk.aloadN (pc' := 33) (v := (.ref t26)) dc_jdk_52_method_14_code_32 rfl rfl rfl ?_
      refine Wlk.areturn (t := (.array .byte)) dc_jdk_52_method_14_code_33 rfl rfl rfl rfl (by decide) (by decide) ?_
      exact ⟨t26, kb27, rfl, le1, g29, K1.trans K (allS (Or.inr le1) all0), B⟩
    | cons c rest ih =>
      intro pre h hcs K B
      have hl : cs.length = pre.length + (rest.length + 1) := by rw [hcs]; simp
      have A := c32.keep K (ninS hat nin0)
      have B2 := B.pad (pad_rep _ _ 2)
      have hvl : (vU pre ++ List.replicate 2 (Value.int 0)).length = 2 * pre.length + 2 := by rw [List.length_append, vU_len]; rfl
      refine Wlk.iload (pc' := 10) (v := (Int32.ofNat pre.length)) dc_jdk_52_method_14_code_8 rfl rfl ?_
      refine Wlk.iloadN (pc' := 11) (v := (Int32.ofNat cs.length)) dc_jdk_52_method_14_code_10 rfl rfl ?_
      refine Wlk.icF (pc' := 14) dc_jdk_52_method_14_code_11 (show (Int32.ofNat pre.length) < (Int32.ofNat cs.length) from ((i32_lt (by omega) (by omega)).mpr (by omega))) rfl ?_
      refine Wlk.aloadN (pc' := 15) (v := (.ref t26)) dc_jdk_52_method_14_code_14 rfl rfl rfl ?_
      refine Wlk.iload (pc' := 17) (v := (Int32.ofNat pre.length)) dc_jdk_52_method_14_code_15 rfl rfl ?_
      refine Wlk.aloadN (pc' := 18) (v := (.ref a)) dc_jdk_52_method_14_code_17 rfl rfl rfl ?_
      refine Wlk.iloadN (pc' := 19) (v := (Int32.ofNat pre.length)) dc_jdk_52_method_14_code_18 rfl rfl ?_
      refine Wlk.caload (pc' := 20) (v := (.int c)) dc_jdk_52_method_14_code_19 A ⟨i32_nn (by omega), (i32_lt (by omega) (by omega)).mpr (by omega)⟩ (by rw [i32_cl (by omega), hcs]; simp [vC]) rfl ?_
      refine Wlk.callS (pc' := 23) (z := (⟨"java/lang/StringUTF16", "putChar", "([BII)V"⟩ : MethodName)) (argsL := [(.ref t26), (.int (Int32.ofNat pre.length)), (.int c)]) (st := []) (W := 0) dc_jdk_52_method_14_code_20 (hw _ (List.mem_of_getElem? (i := 98) rfl)) (hw _ (List.mem_of_getElem? (i := 99) rfl)) (hw _ (List.mem_of_getElem? (i := 19) rfl)) (hw _ (List.mem_of_getElem? (i := 100) rfl)) (by decide) pd_2 rfl (st_put hw t26 pre.length c kb27 (2 * cs.length) (vU pre ++ List.replicate 2 (Value.int 0)) h q0_Sta q1_Sta q2_Sta B2 g29 (by rw [hvl]; omega) (by rw [hvl]; omega) (by omega)) (by decide) rfl (by decide) (by decide) (by decide) rfl rfl (fun v33 h34 J35 q36 => ?_)
      obtain ⟨rfl, K37, n38⟩ := q36
      show Wlk _ _ _ _ _ _ _ _ _ h34 1 8 23 #[.val (.ref a), .val (.int (Int32.ofNat pre.length)), .val (.int (Int32.ofNat cs.length)), .val (.ref t26), .val (.int (Int32.ofNat pre.length))] []
      refine Wlk.iinc (pc' := 26) (v := (1 : Int32)) (x := (Int32.ofNat pre.length)) (Ls' := #[.val (.ref a), .val (.int ((Int32.ofNat pre.length) + (1 : Int32))), .val (.int (Int32.ofNat cs.length)), .val (.ref t26), .val (.int (Int32.ofNat pre.length))]) dc_jdk_52_method_14_code_23 (by decide) rfl rfl rfl rfl ?_
      refine Wlk.iinc (pc' := 29) (v := (1 : Int32)) (x := (Int32.ofNat pre.length)) (Ls' := #[.val (.ref a), .val (.int ((Int32.ofNat pre.length) + (1 : Int32))), .val (.int (Int32.ofNat cs.length)), .val (.ref t26), .val (.int ((Int32.ofNat pre.length) + (1 : Int32)))]) dc_jdk_52_method_14_code_26 (by decide) rfl rfl rfl rfl ?_
      refine Wlk.goto (pc' := 8) dc_jdk_52_method_14_code_29 (by decide) (by decide) ?_
      have e1 : Int32.ofNat pre.length + 1 = Int32.ofNat (pre ++ [c]).length := by rw [i32_succ]; simp
      rw [e1]
      exact ih (pre ++ [c]) _ (by rw [hcs]; simp) (K.trans K37 (allS (Or.inl (List.mem_of_getElem? (i := 0) rfl)) all0)) (vU_set pre c ▸ n38)
  exact loop cs [] h23 rfl (Keep.refl _ _) n31

set_option maxRecDepth 65536 in
set_option maxHeartbeats 40000000 in
theorem st_get {l : Launch} {Z : State} {a0 : Array Value} (hw : ∀ d ∈ tables_1, d.before a0 Z = true) (t : Addr) (i : Nat) (c : Int32) (kb : ClassId) (cs : List Int32) (h0 : Heap) (q0_Sta : Sta Z Z.heap "java/lang/StringUTF16" "$assertionsDisabled" "Z" (.int (1 : Int32))) (q1_Sta : Sta Z Z.heap "java/lang/StringUTF16" "HI_BYTE_SHIFT" "I" (.int (0 : Int32))) (q2_Sta : Sta Z Z.heap "java/lang/StringUTF16" "LO_BYTE_SHIFT" "I" (.int (8 : Int32))) (q3_A : Arv Z h0 t kb .byte (Int32.ofNat (2 * cs.length)) (vU cs) (.int 0)) (hc : cs[i]? = some c) (r0 : ¬ c < 0) (r1 : ¬ (65535 : Int32) < c) (hi : i < cs.length) (hn : cs.length ≤ 4000) :
    Met l Z (⟨"java/lang/StringUTF16", "getChar", "([BI)C"⟩ : MethodName) jdk_52_method_5_code 2 (some .char) false [] ({ frames := 0, cells := 0, slots := 0, locals := 0 } : Room) #[(.ref t), (.int (Int32.ofNat i))] h0 (false, [], []) (fun v h J' => v = some (.int c) ∧ h0 = h) := by
  refine Met.of_goes (Ls := #[.val (.ref t), .val (.int (Int32.ofNat i))]) (by first | exact plainFor_of_name (by first | (simp [plainName, overriddenIn]; done) | decide +kernel) | decide +kernel) (fun m => by first | (simp [entryFrame, mkF, argsToLocals, Value.category]; done) | rfl) rfl (fun G hGl => ?_)
  subst hGl
  refine Wlk.getS (pc' := 3) (v := (.int (1 : Int32))) dc_jdk_52_method_5_code_0 (hw _ (List.mem_of_getElem? (i := 101) rfl)) Via.refl q0_Sta rfl ?_
  refine Wlk.ifT (pc' := 28) dc_jdk_52_method_5_code_3 (by decide) (by decide) (show ¬ ((1 : Int32) = (0 : Int32)) from by decide) ?_
  refine Wlk.iloadN (pc' := 29) (v := (Int32.ofNat i)) dc_jdk_52_method_5_code_28 rfl rfl ?_
  refine Wlk.iconst (pc' := 30) (v := (1 : Int32)) dc_jdk_52_method_5_code_29 rfl rfl ?_
  refine Wlk.ishl (pc' := 31) dc_jdk_52_method_5_code_30 rfl ?_
  rw [i32_shl1 _ (by omega)]
  refine Wlk.istoreN (pc' := 32) (Ls' := #[.val (.ref t), .val (.int (Int32.ofNat (2 * i)))]) dc_jdk_52_method_5_code_31 rfl rfl rfl ?_
  refine Wlk.aloadN (pc' := 33) (v := (.ref t)) dc_jdk_52_method_5_code_32 rfl rfl rfl ?_
  refine Wlk.iloadN (pc' := 34) (v := (Int32.ofNat (2 * i))) dc_jdk_52_method_5_code_33 rfl rfl ?_
  refine Wlk.iinc (pc' := 37) (v := (1 : Int32)) (x := (Int32.ofNat (2 * i))) (Ls' := #[.val (.ref t), .val (.int ((Int32.ofNat (2 * i)) + (1 : Int32)))]) dc_jdk_52_method_5_code_34 (by decide) rfl rfl rfl rfl ?_
  rw [i32_succ]
  refine Wlk.baload (pc' := 38) (v := (.int (bL c))) dc_jdk_52_method_5_code_37 q3_A ⟨i32_nn (by omega), (i32_lt (by omega) (by omega)).mpr (by omega)⟩ (by rw [i32_cl (by omega)]; simp [List.getD_eq_getElem?_getD, (vU_get hc).1]) rfl ?_
  refine Wlk.sipush (pc' := 41) (v := (255 : Int32)) dc_jdk_52_method_5_code_38 (by decide) rfl ?_
  refine Wlk.iand (pc' := 42) dc_jdk_52_method_5_code_41 rfl ?_
  refine Wlk.getS (pc' := 45) (v := (.int (0 : Int32))) dc_jdk_52_method_5_code_42 (hw _ (List.mem_of_getElem? (i := 102) rfl)) Via.refl q1_Sta rfl ?_
  refine Wlk.ishl (pc' := 46) dc_jdk_52_method_5_code_45 rfl ?_
  refine Wlk.aloadN (pc' := 47) (v := (.ref t)) dc_jdk_52_method_5_code_46 rfl rfl rfl ?_
  refine Wlk.iloadN (pc' := 48) (v := (Int32.ofNat (2 * i + 1))) dc_jdk_52_method_5_code_47 rfl rfl ?_
  refine Wlk.baload (pc' := 49) (v := (.int (bH c))) dc_jdk_52_method_5_code_48 q3_A ⟨i32_nn (by omega), (i32_lt (by omega) (by omega)).mpr (by omega)⟩ (by rw [i32_cl (by omega)]; simp [List.getD_eq_getElem?_getD, (vU_get hc).2]) rfl ?_
  refine Wlk.sipush (pc' := 52) (v := (255 : Int32)) dc_jdk_52_method_5_code_49 (by decide) rfl ?_
  refine Wlk.iand (pc' := 53) dc_jdk_52_method_5_code_52 rfl ?_
  refine Wlk.getS (pc' := 56) (v := (.int (8 : Int32))) dc_jdk_52_method_5_code_53 (hw _ (List.mem_of_getElem? (i := 103) rfl)) Via.refl q2_Sta rfl ?_
  refine Wlk.ishl (pc' := 57) dc_jdk_52_method_5_code_56 rfl ?_
  refine Wlk.ior (pc' := 58) dc_jdk_52_method_5_code_57 rfl ?_
  refine Wlk.i2c (pc' := 59) dc_jdk_52_method_5_code_58 rfl ?_
  refine Wlk.ireturnN (t := .char) dc_jdk_52_method_5_code_59 rfl (by simp) (by decide) (by decide) ?_
  exact ⟨(congrArg (fun z => some (Value.int z)) (u_get r0 r1)), rfl⟩

set_option maxRecDepth 65536 in
set_option maxHeartbeats 40000000 in
theorem st_codU {l : Launch} {Z : State} {a0 : Array Value} (hw : ∀ d ∈ tables_1, d.before a0 Z = true) (t : Addr) (kb : ClassId) (cs : List Int32) (h0 : Heap) (q0_A : Arv Z h0 t kb .byte (Int32.ofNat (2 * cs.length)) (vU cs) (.int 0)) (hp : 0 < cs.length) (hn : cs.length ≤ 4000) :
    Met l Z (⟨"java/lang/StringUTF16", "coderFromArrayLen", "([BI)B"⟩ : MethodName) jdk_52_method_15_code 2 (some .byte) false [] ({ frames := 0, cells := 0, slots := 0, locals := 0 } : Room) #[(.ref t), (.int (Int32.ofNat cs.length))] h0 (false, [], []) (fun v h J' => v = some (.int (1 : Int32)) ∧ h0 = h) := by
  refine Met.of_goes (Ls := #[.val (.ref t), .val (.int (Int32.ofNat cs.length))]) (by first | exact plainFor_of_name (by first | (simp [plainName, overriddenIn]; done) | decide +kernel) | decide +kernel) (fun m => by first | (simp [entryFrame, mkF, argsToLocals, Value.category]; done) | rfl) rfl (fun G hGl => ?_)
  subst hGl
  refine Wlk.iloadN (pc' := 1) (v := (Int32.ofNat cs.length)) dc_jdk_52_method_15_code_0 rfl rfl ?_
  refine Wlk.aloadN (pc' := 2) (v := (.ref t)) dc_jdk_52_method_15_code_1 rfl rfl rfl ?_
  refine Wlk.arraylength (pc' := 3) dc_jdk_52_method_15_code_2 q0_A rfl ?_
  refine Wlk.isub (pc' := 4) dc_jdk_52_method_15_code_3 rfl ?_
  refine Wlk.bipush (pc' := 6) (v := (31 : Int32)) dc_jdk_52_method_15_code_4 (by decide) rfl ?_
  refine Wlk.iushr (pc' := 7) dc_jdk_52_method_15_code_6 rfl ?_
  refine Wlk.i2b (pc' := 8) dc_jdk_52_method_15_code_7 rfl ?_
  refine Wlk.ireturnN (t := .byte) dc_jdk_52_method_15_code_8 rfl (by simp) (by decide) (by decide) ?_
  exact ⟨(congrArg (fun z => some (Value.int z)) (cod1 hp (by omega))), rfl⟩

set_option maxRecDepth 65536 in
set_option maxHeartbeats 40000000 in
theorem st_cmpA {l : Launch} {Z : State} {a0 : Array Value} (hw : ∀ d ∈ tables_1, d.before a0 Z = true) (a : Addr) (ka : ClassId) (cs : List Int32) (d : Value) (h0 : Heap) (q0_Sta : Sta Z Z.heap "java/lang/StringUTF16" "$assertionsDisabled" "Z" (.int (1 : Int32))) (q1_Sta : Sta Z Z.heap "java/lang/StringUTF16" "HI_BYTE_SHIFT" "I" (.int (0 : Int32))) (q2_Sta : Sta Z Z.heap "java/lang/StringUTF16" "LO_BYTE_SHIFT" "I" (.int (8 : Int32))) (q3_A : Arv Z h0 a ka .char (Int32.ofNat cs.length) (vC cs) d) (hn : cs.length ≤ 4) (hR : ∀ c ∈ cs, ¬ c < 0 ∧ ¬ (65535 : Int32) < c) :
    Met l Z (⟨"java/lang/StringUTF16", "compress", "([CII)[B"⟩ : MethodName) jdk_52_method_16_code 6 (some (.array .byte)) false [] ({ frames := 3, cells := 2, slots := 12, locals := 40 } : Room) #[(.ref a), (.int (0 : Int32)), (.int (Int32.ofNat cs.length))] h0 (false, [], []) (fun v h J' => ∃ (t : Addr) (kb : ClassId), v = some (.ref t) ∧ h0.size ≤ t ∧ Z.heap.size ≤ t ∧ Keep h0 h [] ∧ ((lat cs = cs ∧ Arv Z h t kb .byte (Int32.ofNat cs.length) (vL cs) (.int 0)) ∨ (¬ lat cs = cs ∧ Arv Z h t kb .byte (Int32.ofNat (2 * cs.length)) (vU cs) (.int 0)))) := by
  refine Met.of_goes (Ls := #[.val (.ref a), .val (.int (0 : Int32)), .val (.int (Int32.ofNat cs.length)), .unset, .unset, .unset]) (by first | exact plainFor_of_name (by first | (simp [plainName, overriddenIn]; done) | decide +kernel) | decide +kernel) (fun m => by first | (simp [entryFrame, mkF, argsToLocals, Value.category]; done) | rfl) rfl (fun G hGl => ?_)
  subst hGl
  refine Wlk.iloadN (pc' := 1) (v := (Int32.ofNat cs.length)) dc_jdk_52_method_16_code_0 rfl rfl ?_
  refine Wlk.newP (pc' := 3) (ty := .byte) (cap := 4) dc_jdk_52_method_16_code_1 rfl (hw _ (List.mem_of_getElem? (i := 21) rfl)) (i32_nn (by omega)) (by rw [i32_cl (by omega)]; exact hn) (by decide) (by decide) (by decide) rfl (fun b39 h40 kc41 le42 g43 E44 A45 => ?_)
  refine Wlk.astoreN (pc' := 4) (Ls' := #[.val (.ref a), .val (.int (0 : Int32)), .val (.int (Int32.ofNat cs.length)), .val (.ref b39), .unset, .unset]) dc_jdk_52_method_16_code_3 rfl rfl rfl rfl ?_
  refine Wlk.aloadN (pc' := 5) (v := (.ref a)) dc_jdk_52_method_16_code_4 rfl rfl rfl ?_
  refine Wlk.iloadN (pc' := 6) (v := (0 : Int32)) dc_jdk_52_method_16_code_5 rfl rfl ?_
  refine Wlk.aloadN (pc' := 7) (v := (.ref b39)) dc_jdk_52_method_16_code_6 rfl rfl rfl ?_
  refine Wlk.iconst (pc' := 8) (v := (0 : Int32)) dc_jdk_52_method_16_code_7 rfl rfl ?_
  refine Wlk.iloadN (pc' := 9) (v := (Int32.ofNat cs.length)) dc_jdk_52_method_16_code_8 rfl rfl ?_
  have c46 := (q3_A.ext E44)
  refine Wlk.callS (pc' := 12) (z := (⟨"java/lang/StringUTF16", "compress", "([CI[BII)I"⟩ : MethodName)) (argsL := [(.ref a), (.int (0 : Int32)), (.ref b39), (.int (0 : Int32)), (.int (Int32.ofNat cs.length))]) (st := []) (W := 0) dc_jdk_52_method_16_code_9 (hw _ (List.mem_of_getElem? (i := 22) rfl)) (hw _ (List.mem_of_getElem? (i := 23) rfl)) (hw _ (List.mem_of_getElem? (i := 19) rfl)) (hw _ (List.mem_of_getElem? (i := 24) rfl)) (by decide) pd_3 rfl (st_cmp5 hw a b39 ka kc41 cs d h40 c46 A45 (Nat.ne_of_lt (Nat.lt_of_lt_of_le q3_A.lt (Nat.le_trans (Nat.le_refl _) le42))) g43 (by omega)) (by decide) rfl (by decide) (by decide) (by decide) rfl rfl (fun v47 h48 J49 q50 => ?_)
  obtain ⟨rfl, K51, A52⟩ := q50
  show Wlk _ _ _ _ _ _ _ _ _ h48 1 4 12 #[.val (.ref a), .val (.int (0 : Int32)), .val (.int (Int32.ofNat cs.length)), .val (.ref b39), .unset, .unset] [(.int (Int32.ofNat (lat cs).length))]
  refine Wlk.istore (pc' := 14) (Ls' := #[.val (.ref a), .val (.int (0 : Int32)), .val (.int (Int32.ofNat cs.length)), .val (.ref b39), .val (.int (Int32.ofNat (lat cs).length)), .unset]) dc_jdk_52_method_16_code_12 rfl rfl rfl ?_
  refine Wlk.iload (pc' := 16) (v := (Int32.ofNat (lat cs).length)) dc_jdk_52_method_16_code_14 rfl rfl ?_
  refine Wlk.iloadN (pc' := 17) (v := (Int32.ofNat cs.length)) dc_jdk_52_method_16_code_16 rfl rfl ?_
  refine Wlk.ic_ (pcT := 57) (pcF := 20) dc_jdk_52_method_16_code_17 (by decide) (by decide) rfl (fun (hc53 : (Int32.ofNat (lat cs).length) = (Int32.ofNat cs.length)) => ?_) (fun (hc53 : ¬ ((Int32.ofNat (lat cs).length) = (Int32.ofNat cs.length))) => ?_)
  · skip
    have hlat : lat cs = cs := lat_full ((i32_eq (by have := lat_le cs; omega) (by omega)).mp hc53)
    refine Wlk.aloadN (pc' := 58) (v := (.ref b39)) dc_jdk_52_method_16_code_57 rfl rfl rfl ?_
    refine Wlk.areturn (t := (.array .byte)) dc_jdk_52_method_16_code_58 rfl rfl rfl rfl (by decide) (by decide) ?_
    exact ⟨b39, kc41, rfl, (Nat.le_trans (Nat.le_refl _) le42), g43, (((Keep.refl h0 []).ext E44).trans K51 (allS (Or.inr (Nat.le_trans (Nat.le_refl _) le42)) all0)), (Or.inl ⟨hlat, by have q := A52; rw [hlat] at q; exact q⟩)⟩
  · skip
    have hlat : ¬ lat cs = cs := fun q => hc53 (by rw [q])
    obtain ⟨c, rest, ecs, hgt⟩ := lat_next hlat
    have hc : cs[(lat cs).length]? = some c := lat_at ecs
    have hi : (lat cs).length < cs.length := (List.getElem?_eq_some_iff.mp hc).1
    have r0 := (hR c (List.mem_of_getElem? hc)).1
    have r1 := (hR c (List.mem_of_getElem? hc)).2
    refine Wlk.aloadN (pc' := 21) (v := (.ref a)) dc_jdk_52_method_16_code_20 rfl rfl rfl ?_
    refine Wlk.iloadN (pc' := 22) (v := (0 : Int32)) dc_jdk_52_method_16_code_21 rfl rfl ?_
    refine Wlk.iloadN (pc' := 23) (v := (Int32.ofNat cs.length)) dc_jdk_52_method_16_code_22 rfl rfl ?_
    have c54 := (c46.keep K51 (ninS (Nat.ne_of_lt (Nat.lt_of_lt_of_le q3_A.lt (Nat.le_trans (Nat.le_refl _) le42))) nin0))
    refine Wlk.callS (pc' := 26) (z := (⟨"java/lang/StringUTF16", "toBytes", "([CII)[B"⟩ : MethodName)) (argsL := [(.ref a), (.int (0 : Int32)), (.int (Int32.ofNat cs.length))]) (st := []) (W := 0) dc_jdk_52_method_16_code_23 (hw _ (List.mem_of_getElem? (i := 88) rfl)) (hw _ (List.mem_of_getElem? (i := 89) rfl)) (hw _ (List.mem_of_getElem? (i := 19) rfl)) (hw _ (List.mem_of_getElem? (i := 90) rfl)) (by decide) pd_4 rfl (st_tob hw a ka cs d h48 q0_Sta q1_Sta q2_Sta c54 hn) (by decide) rfl (by decide) (by decide) (by decide) rfl rfl (fun v55 h56 J57 q58 => ?_)
    obtain ⟨t59, kb60, rfl, le61, g62, K63, B64⟩ := q58
    show Wlk _ _ _ _ _ _ _ _ _ h56 2 12 26 #[.val (.ref a), .val (.int (0 : Int32)), .val (.int (Int32.ofNat cs.length)), .val (.ref b39), .val (.int (Int32.ofNat (lat cs).length)), .unset] [(.ref t59)]
    refine Wlk.astore (pc' := 28) (Ls' := #[.val (.ref a), .val (.int (0 : Int32)), .val (.int (Int32.ofNat cs.length)), .val (.ref b39), .val (.int (Int32.ofNat (lat cs).length)), .val (.ref t59)]) dc_jdk_52_method_16_code_26 rfl rfl rfl rfl ?_
    refine Wlk.aload (pc' := 30) (v := (.ref t59)) dc_jdk_52_method_16_code_28 rfl rfl rfl ?_
    refine Wlk.iload (pc' := 32) (v := (Int32.ofNat (lat cs).length)) dc_jdk_52_method_16_code_30 rfl rfl ?_
    refine Wlk.callS (pc' := 35) (z := (⟨"java/lang/StringUTF16", "getChar", "([BI)C"⟩ : MethodName)) (argsL := [(.ref t59), (.int (Int32.ofNat (lat cs).length))]) (st := []) (W := 0) dc_jdk_52_method_16_code_32 (hw _ (List.mem_of_getElem? (i := 104) rfl)) (hw _ (List.mem_of_getElem? (i := 105) rfl)) (hw _ (List.mem_of_getElem? (i := 19) rfl)) (hw _ (List.mem_of_getElem? (i := 106) rfl)) (by decide) pd_5 rfl (st_get hw t59 ((lat cs).length) c kb60 _ h56 q0_Sta q1_Sta q2_Sta B64 hc r0 r1 hi (by omega)) (by decide) rfl (by decide) (by decide) (by decide) rfl rfl (fun v65 h66 J67 q68 => ?_)
    obtain ⟨rfl, rfl⟩ := q68
    show Wlk _ _ _ _ _ _ _ _ _ h56 2 12 35 #[.val (.ref a), .val (.int (0 : Int32)), .val (.int (Int32.ofNat cs.length)), .val (.ref b39), .val (.int (Int32.ofNat (lat cs).length)), .val (.ref t59)] [(.int c)]
    refine Wlk.sipush (pc' := 38) (v := (255 : Int32)) dc_jdk_52_method_16_code_35 (by decide) rfl ?_
    refine Wlk.icT (pc' := 54) dc_jdk_52_method_16_code_38 (by decide) (by decide) (show (255 : Int32) < c from hgt) ?_
    refine Wlk.aload (pc' := 56) (v := (.ref t59)) dc_jdk_52_method_16_code_54 rfl rfl rfl ?_
    refine Wlk.areturn (t := (.array .byte)) dc_jdk_52_method_16_code_56 rfl rfl rfl rfl (by decide) (by decide) ?_
    exact ⟨t59, kb60, rfl, (Nat.le_trans (Nat.le_trans E44.1 K51.1) le61), g62, ((((Keep.refl h0 []).ext E44).trans K51 (allS (Or.inr (Nat.le_trans (Nat.le_refl _) le42)) all0)).trans K63 all0), (Or.inr ⟨hlat, B64⟩)⟩

set_option maxRecDepth 65536 in
set_option maxHeartbeats 40000000 in
theorem st_cod {l : Launch} {Z : State} {a0 : Array Value} (hw : ∀ d ∈ tables_1, d.before a0 Z = true) (t : Addr) (kb : ClassId) (N : Int32) (vs : List Value) (d : Value) (h0 : Heap) (B1 : Arv Z h0 t kb .byte N vs d) :
    Met l Z (⟨"java/lang/StringUTF16", "coderFromArrayLen", "([BI)B"⟩ : MethodName) jdk_52_method_15_code 2 (some .byte) false [] ({ frames := 0, cells := 0, slots := 0, locals := 0 } : Room) #[(.ref t), (.int N)] h0 (false, [], []) (fun v h J => v = some (.int 0) ∧ h0 = h) := by
  refine Met.of_goes (Ls := #[.val (.ref t), .val (.int N)]) (by first | exact plainFor_of_name (by first | (simp [plainName, overriddenIn]; done) | decide +kernel) | decide +kernel) (fun m => by first | (simp [entryFrame, mkF, argsToLocals, Value.category]; done) | rfl) rfl (fun G hGl => ?_)
  subst hGl
  refine Wlk.iloadN (pc' := 1) (v := N) dc_jdk_52_method_15_code_0 rfl rfl ?_
  refine Wlk.aloadN (pc' := 2) (v := (.ref t)) dc_jdk_52_method_15_code_1 rfl rfl rfl ?_
  refine Wlk.arraylength (pc' := 3) dc_jdk_52_method_15_code_2 B1 rfl ?_
  refine Wlk.isub (pc' := 4) dc_jdk_52_method_15_code_3 rfl ?_
  refine Wlk.bipush (pc' := 6) (v := (31 : Int32)) dc_jdk_52_method_15_code_4 (by decide) rfl ?_
  refine Wlk.iushr (pc' := 7) dc_jdk_52_method_15_code_6 rfl ?_
  refine Wlk.i2b (pc' := 8) dc_jdk_52_method_15_code_7 rfl ?_
  refine Wlk.ireturnN (t := .byte) dc_jdk_52_method_15_code_8 rfl (by simp) (by decide) (by decide) ?_
  exact ⟨by rw [Int32.sub_self]; rfl, rfl⟩

set_option maxRecDepth 65536 in
set_option maxHeartbeats 40000000 in
theorem st_ini4A {l : Launch} {Z : State} {a0 : Array Value} (hw : ∀ d ∈ tables_1, d.before a0 Z = true) (s : Addr) (a : Addr) (u1 : Value) (u2 : Value) (ka : ClassId) (cs : List Int32) (d : Value) (zc : Int32) (h0 : Heap) (q0_Sta : Sta Z Z.heap "java/lang/StringUTF16" "$assertionsDisabled" "Z" (.int (1 : Int32))) (q1_Sta : Sta Z Z.heap "java/lang/StringUTF16" "HI_BYTE_SHIFT" "I" (.int (0 : Int32))) (q2_Sta : Sta Z Z.heap "java/lang/StringUTF16" "LO_BYTE_SHIFT" "I" (.int (8 : Int32))) (q3_E : Exa Z h0 s "java/lang/String") (q4_F : Fld Z h0 s "java/lang/String" "value" "[B" u1) (q5_F : Fld Z h0 s "java/lang/String" "coder" "B" u2) (q6_G : Z.heap.size ≤ s) (q7_A : Arv Z h0 a ka .char (Int32.ofNat cs.length) (vC cs) d) (q8_Sta : Sta Z Z.heap "java/lang/String" "COMPACT_STRINGS" "Z" (.int zc)) (P3 : ¬ zc = 0) (hn : cs.length ≤ 4) (hp : 0 < cs.length) (hR : ∀ c ∈ cs, ¬ c < 0 ∧ ¬ (65535 : Int32) < c) :
    Met l Z (⟨"java/lang/String", "<init>", "([CIILjava/lang/Void;)V"⟩ : MethodName) jdk_42_method_149_code 6 none false [] ({ frames := 4, cells := 2, slots := 12, locals := 57 } : Room) #[(.ref s), (.ref a), (.int (0 : Int32)), (.int (Int32.ofNat cs.length)), .null] h0 (false, [], []) (fun v h J' => ∃ (t : Addr), v = none ∧ h0.size ≤ t ∧ Z.heap.size ≤ t ∧ Keep h0 h [s] ∧ StrA Z h s t cs) := by
  refine Met.of_goes (Ls := #[.val (.ref s), .val (.ref a), .val (.int (0 : Int32)), .val (.int (Int32.ofNat cs.length)), .val .null, .unset]) (by first | exact plainFor_of_name (by first | (simp [plainName, overriddenIn]; done) | decide +kernel) | decide +kernel) (fun m => by first | (simp [entryFrame, mkF, argsToLocals, Value.category]; done) | rfl) rfl (fun G hGl => ?_)
  subst hGl
  refine Wlk.aloadN (pc' := 1) (v := (.ref s)) dc_jdk_42_method_149_code_0 rfl rfl rfl ?_
  refine Wlk.initO (pc' := 4) (W := 0) dc_jdk_42_method_149_code_1 (hw _ (List.mem_of_getElem? (i := 13) rfl)) (hw _ (List.mem_of_getElem? (i := 14) rfl)) (hw _ (List.mem_of_getElem? (i := 15) rfl)) (by decide) rfl (by decide) rfl ?_
  refine Wlk.iloadN (pc' := 5) (v := (Int32.ofNat cs.length)) dc_jdk_42_method_149_code_4 rfl rfl ?_
  refine Wlk.ifT (pc' := 27) dc_jdk_42_method_149_code_5 (by decide) (by decide) (show ¬ ((Int32.ofNat cs.length) = (0 : Int32)) from (fun q => absurd ((i32_eq (j := 0) (by omega) (by omega)).mp q) (by omega))) ?_
  refine Wlk.getS (pc' := 30) (v := (.int zc)) dc_jdk_42_method_149_code_27 (hw _ (List.mem_of_getElem? (i := 16) rfl)) Via.refl q8_Sta rfl ?_
  refine Wlk.ifF (pc' := 33) dc_jdk_42_method_149_code_30 (show ¬ (zc = (0 : Int32)) from P3) rfl ?_
  refine Wlk.aloadN (pc' := 34) (v := (.ref a)) dc_jdk_42_method_149_code_33 rfl rfl rfl ?_
  refine Wlk.iloadN (pc' := 35) (v := (0 : Int32)) dc_jdk_42_method_149_code_34 rfl rfl ?_
  refine Wlk.iloadN (pc' := 36) (v := (Int32.ofNat cs.length)) dc_jdk_42_method_149_code_35 rfl rfl ?_
  refine Wlk.callS (pc' := 39) (z := (⟨"java/lang/StringUTF16", "compress", "([CII)[B"⟩ : MethodName)) (argsL := [(.ref a), (.int (0 : Int32)), (.int (Int32.ofNat cs.length))]) (st := []) (W := 0) dc_jdk_42_method_149_code_36 (hw _ (List.mem_of_getElem? (i := 17) rfl)) (hw _ (List.mem_of_getElem? (i := 18) rfl)) (hw _ (List.mem_of_getElem? (i := 19) rfl)) (hw _ (List.mem_of_getElem? (i := 20) rfl)) (by decide) pd_4 rfl (st_cmpA hw a ka cs d h0 q0_Sta q1_Sta q2_Sta q7_A hn hR) (by decide) rfl (by decide) (by decide) (by decide) rfl rfl (fun v69 h70 J71 q72 => ?_)
  obtain ⟨t73, kb74, rfl, le75, g76, K77, n78⟩ := q72
  show Wlk _ _ _ _ _ _ _ _ _ h70 2 12 39 #[.val (.ref s), .val (.ref a), .val (.int (0 : Int32)), .val (.int (Int32.ofNat cs.length)), .val .null, .unset] [(.ref t73)]
  rcases n78 with ⟨hlat, AA⟩ | ⟨hlat, AA⟩
  · skip
    refine Wlk.astore (pc' := 41) (Ls' := #[.val (.ref s), .val (.ref a), .val (.int (0 : Int32)), .val (.int (Int32.ofNat cs.length)), .val .null, .val (.ref t73)]) dc_jdk_42_method_149_code_39 rfl rfl rfl rfl ?_
    refine Wlk.aloadN (pc' := 42) (v := (.ref s)) dc_jdk_42_method_149_code_41 rfl rfl rfl ?_
    refine Wlk.aload (pc' := 44) (v := (.ref t73)) dc_jdk_42_method_149_code_42 rfl rfl rfl ?_
    refine Wlk.iloadN (pc' := 45) (v := (Int32.ofNat cs.length)) dc_jdk_42_method_149_code_44 rfl rfl ?_
    refine Wlk.callS (pc' := 48) (z := (⟨"java/lang/StringUTF16", "coderFromArrayLen", "([BI)B"⟩ : MethodName)) (argsL := [(.ref t73), (.int (Int32.ofNat cs.length))]) (st := [(.ref s)]) (W := 1) dc_jdk_42_method_149_code_45 (hw _ (List.mem_of_getElem? (i := 25) rfl)) (hw _ (List.mem_of_getElem? (i := 26) rfl)) (hw _ (List.mem_of_getElem? (i := 19) rfl)) (hw _ (List.mem_of_getElem? (i := 27) rfl)) (by decide) pd_6 rfl (st_cod hw t73 kb74 (Int32.ofNat cs.length) _ _ h70 AA) (by decide) rfl (by decide) (by decide) (by decide) rfl rfl (fun v79 h80 J81 q82 => ?_)
    obtain ⟨rfl, rfl⟩ := q82
    show Wlk _ _ _ _ _ _ _ _ _ h70 2 12 48 #[.val (.ref s), .val (.ref a), .val (.int (0 : Int32)), .val (.int (Int32.ofNat cs.length)), .val .null, .val (.ref t73)] [(.int (0 : Int32)), (.ref s)]
    have c83 := (q5_F.keep K77 nin0)
    have c84 := (q3_E.keep K77)
    refine Wlk.putF (pc' := 51) (ty := .byte) dc_jdk_42_method_149_code_48 (hw _ (List.mem_of_getElem? (i := 28) rfl)) Via.refl c83 c84 (Or.inr ⟨(hw _ (List.mem_of_getElem? (i := 29) rfl)), rfl, rfl⟩) (hw _ (List.mem_of_getElem? (i := 4) rfl)) (by decide) rfl rfl q6_G rfl (fun h86 W85 => ?_)
    have F87 := c83.same W85
    refine Wlk.aloadN (pc' := 52) (v := (.ref s)) dc_jdk_42_method_149_code_51 rfl rfl rfl ?_
    refine Wlk.aload (pc' := 54) (v := (.ref t73)) dc_jdk_42_method_149_code_52 rfl rfl rfl ?_
    have c88 := ((q4_F.keep K77 nin0).other W85 (Or.inr (slot_ne (Or.inr (hw _ (List.mem_of_getElem? (i := 31) rfl))) (Or.inr (hw _ (List.mem_of_getElem? (i := 29) rfl))) (by decide) (t := (.array .byte)) (t' := .byte) (by decide) (by decide))))
    have c89 := (c84.wr W85)
    refine Wlk.putF (pc' := 57) (ty := (.array .byte)) dc_jdk_42_method_149_code_54 (hw _ (List.mem_of_getElem? (i := 30) rfl)) Via.refl c88 c89 (Or.inr ⟨(hw _ (List.mem_of_getElem? (i := 31) rfl)), rfl, rfl⟩) (hw _ (List.mem_of_getElem? (i := 4) rfl)) (by decide) rfl rfl q6_G rfl (fun h91 W90 => ?_)
    have F92 := c88.same W90
    refine Wlk.return_ dc_jdk_42_method_149_code_57 rfl (by decide) (by decide) ?_
    have c93 := ((AA.other W85 (Ne.symm (Nat.ne_of_lt (Nat.lt_of_lt_of_le q3_E.lt (Nat.le_trans (Nat.le_refl _) le75))))).other W90 (Ne.symm (Nat.ne_of_lt (Nat.lt_of_lt_of_le q3_E.lt (Nat.le_trans (Nat.le_refl _) le75)))))
    have c94 := (c89.wr W90)
    have c95 := (F87.other W90 (Or.inr (slot_ne (Or.inr (hw _ (List.mem_of_getElem? (i := 29) rfl))) (Or.inr (hw _ (List.mem_of_getElem? (i := 31) rfl))) (by decide) (t := .byte) (t' := (.array .byte)) (by decide) (by decide))))
    exact ⟨t73, rfl, (Nat.le_trans (Nat.le_refl _) le75), g76, ((((Keep.refl h0 [s]).trans K77 all0).wr W85 (Or.inl (List.mem_of_getElem? (i := 0) rfl))).wr W90 (Or.inl (List.mem_of_getElem? (i := 0) rfl))), (Or.inl ⟨hlat, c94, F92, c95, kb74, c93⟩)⟩
  · skip
    refine Wlk.astore (pc' := 41) (Ls' := #[.val (.ref s), .val (.ref a), .val (.int (0 : Int32)), .val (.int (Int32.ofNat cs.length)), .val .null, .val (.ref t73)]) dc_jdk_42_method_149_code_39 rfl rfl rfl rfl ?_
    refine Wlk.aloadN (pc' := 42) (v := (.ref s)) dc_jdk_42_method_149_code_41 rfl rfl rfl ?_
    refine Wlk.aload (pc' := 44) (v := (.ref t73)) dc_jdk_42_method_149_code_42 rfl rfl rfl ?_
    refine Wlk.iloadN (pc' := 45) (v := (Int32.ofNat cs.length)) dc_jdk_42_method_149_code_44 rfl rfl ?_
    refine Wlk.callS (pc' := 48) (z := (⟨"java/lang/StringUTF16", "coderFromArrayLen", "([BI)B"⟩ : MethodName)) (argsL := [(.ref t73), (.int (Int32.ofNat cs.length))]) (st := [(.ref s)]) (W := 1) dc_jdk_42_method_149_code_45 (hw _ (List.mem_of_getElem? (i := 25) rfl)) (hw _ (List.mem_of_getElem? (i := 26) rfl)) (hw _ (List.mem_of_getElem? (i := 19) rfl)) (hw _ (List.mem_of_getElem? (i := 27) rfl)) (by decide) pd_6 rfl (st_codU hw t73 kb74 cs h70 AA hp (by omega)) (by decide) rfl (by decide) (by decide) (by decide) rfl rfl (fun v96 h97 J98 q99 => ?_)
    obtain ⟨rfl, rfl⟩ := q99
    show Wlk _ _ _ _ _ _ _ _ _ h70 2 12 48 #[.val (.ref s), .val (.ref a), .val (.int (0 : Int32)), .val (.int (Int32.ofNat cs.length)), .val .null, .val (.ref t73)] [(.int (1 : Int32)), (.ref s)]
    have c100 := (q5_F.keep K77 nin0)
    have c101 := (q3_E.keep K77)
    refine Wlk.putF (pc' := 51) (ty := .byte) dc_jdk_42_method_149_code_48 (hw _ (List.mem_of_getElem? (i := 28) rfl)) Via.refl c100 c101 (Or.inr ⟨(hw _ (List.mem_of_getElem? (i := 29) rfl)), rfl, rfl⟩) (hw _ (List.mem_of_getElem? (i := 4) rfl)) (by decide) rfl rfl q6_G rfl (fun h103 W102 => ?_)
    have F104 := c100.same W102
    refine Wlk.aloadN (pc' := 52) (v := (.ref s)) dc_jdk_42_method_149_code_51 rfl rfl rfl ?_
    refine Wlk.aload (pc' := 54) (v := (.ref t73)) dc_jdk_42_method_149_code_52 rfl rfl rfl ?_
    have c105 := ((q4_F.keep K77 nin0).other W102 (Or.inr (slot_ne (Or.inr (hw _ (List.mem_of_getElem? (i := 31) rfl))) (Or.inr (hw _ (List.mem_of_getElem? (i := 29) rfl))) (by decide) (t := (.array .byte)) (t' := .byte) (by decide) (by decide))))
    have c106 := (c101.wr W102)
    refine Wlk.putF (pc' := 57) (ty := (.array .byte)) dc_jdk_42_method_149_code_54 (hw _ (List.mem_of_getElem? (i := 30) rfl)) Via.refl c105 c106 (Or.inr ⟨(hw _ (List.mem_of_getElem? (i := 31) rfl)), rfl, rfl⟩) (hw _ (List.mem_of_getElem? (i := 4) rfl)) (by decide) rfl rfl q6_G rfl (fun h108 W107 => ?_)
    have F109 := c105.same W107
    refine Wlk.return_ dc_jdk_42_method_149_code_57 rfl (by decide) (by decide) ?_
    have c110 := ((AA.other W102 (Ne.symm (Nat.ne_of_lt (Nat.lt_of_lt_of_le q3_E.lt (Nat.le_trans (Nat.le_refl _) le75))))).other W107 (Ne.symm (Nat.ne_of_lt (Nat.lt_of_lt_of_le q3_E.lt (Nat.le_trans (Nat.le_refl _) le75)))))
    have c111 := (c106.wr W107)
    have c112 := (F104.other W107 (Or.inr (slot_ne (Or.inr (hw _ (List.mem_of_getElem? (i := 29) rfl))) (Or.inr (hw _ (List.mem_of_getElem? (i := 31) rfl))) (by decide) (t := .byte) (t' := (.array .byte)) (by decide) (by decide))))
    exact ⟨t73, rfl, (Nat.le_trans (Nat.le_refl _) le75), g76, ((((Keep.refl h0 [s]).trans K77 all0).wr W102 (Or.inl (List.mem_of_getElem? (i := 0) rfl))).wr W107 (Or.inl (List.mem_of_getElem? (i := 0) rfl))), (Or.inr ⟨hlat, c111, F109, c112, kb74, c110⟩)⟩

set_option maxRecDepth 65536 in
set_option maxHeartbeats 40000000 in
theorem st_ini1A {l : Launch} {Z : State} {a0 : Array Value} (hw : ∀ d ∈ tables_1, d.before a0 Z = true) (s : Addr) (a : Addr) (u1 : Value) (u2 : Value) (ka : ClassId) (cs : List Int32) (d : Value) (zc : Int32) (h0 : Heap) (q0_Sta : Sta Z Z.heap "java/lang/StringUTF16" "$assertionsDisabled" "Z" (.int (1 : Int32))) (q1_Sta : Sta Z Z.heap "java/lang/StringUTF16" "HI_BYTE_SHIFT" "I" (.int (0 : Int32))) (q2_Sta : Sta Z Z.heap "java/lang/StringUTF16" "LO_BYTE_SHIFT" "I" (.int (8 : Int32))) (q3_E : Exa Z h0 s "java/lang/String") (q4_F : Fld Z h0 s "java/lang/String" "value" "[B" u1) (q5_F : Fld Z h0 s "java/lang/String" "coder" "B" u2) (q6_G : Z.heap.size ≤ s) (q7_A : Arv Z h0 a ka .char (Int32.ofNat cs.length) (vC cs) d) (q8_Sta : Sta Z Z.heap "java/lang/String" "COMPACT_STRINGS" "Z" (.int zc)) (P3 : ¬ zc = 0) (hn : cs.length ≤ 4) (hp : 0 < cs.length) (hR : ∀ c ∈ cs, ¬ c < 0 ∧ ¬ (65535 : Int32) < c) :
    Met l Z (⟨"java/lang/String", "<init>", "([C)V"⟩ : MethodName) jdk_42_method_3_code 2 none false [] ({ frames := 5, cells := 2, slots := 12, locals := 74 } : Room) #[(.ref s), (.ref a)] h0 (false, [], []) (fun v h J' => ∃ (t : Addr), v = none ∧ h0.size ≤ t ∧ Z.heap.size ≤ t ∧ Keep h0 h [s] ∧ StrA Z h s t cs) := by
  refine Met.of_goes (Ls := #[.val (.ref s), .val (.ref a)]) (by first | exact plainFor_of_name (by first | (simp [plainName, overriddenIn]; done) | decide +kernel) | decide +kernel) (fun m => by first | (simp [entryFrame, mkF, argsToLocals, Value.category]; done) | rfl) rfl (fun G hGl => ?_)
  subst hGl
  refine Wlk.aloadN (pc' := 1) (v := (.ref s)) dc_jdk_42_method_3_code_0 rfl rfl rfl ?_
  refine Wlk.aloadN (pc' := 2) (v := (.ref a)) dc_jdk_42_method_3_code_1 rfl rfl rfl ?_
  refine Wlk.iconst (pc' := 3) (v := (0 : Int32)) dc_jdk_42_method_3_code_2 rfl rfl ?_
  refine Wlk.aloadN (pc' := 4) (v := (.ref a)) dc_jdk_42_method_3_code_3 rfl rfl rfl ?_
  refine Wlk.arraylength (pc' := 5) dc_jdk_42_method_3_code_4 q7_A rfl ?_
  refine Wlk.aconstNull (pc' := 6) dc_jdk_42_method_3_code_5 rfl ?_
  refine Wlk.callC (pc' := 9) (a := s) (z := (⟨"java/lang/String", "<init>", "([CIILjava/lang/Void;)V"⟩ : MethodName)) (argsL := [(.ref a), (.int (0 : Int32)), (.int (Int32.ofNat cs.length)), .null]) (st := []) (W := 0) dc_jdk_42_method_3_code_6 (hw _ (List.mem_of_getElem? (i := 9) rfl)) (hw _ (List.mem_of_getElem? (i := 10) rfl)) (hw _ (List.mem_of_getElem? (i := 5) rfl)) (hw _ (List.mem_of_getElem? (i := 12) rfl)) (by decide) rfl pd_7 rfl (st_ini4A hw s a u1 u2 ka cs d zc h0 q0_Sta q1_Sta q2_Sta q3_E q4_F q5_F q6_G q7_A q8_Sta P3 hn hp hR) (by decide) rfl (by decide) (by decide) (by decide) rfl rfl (fun v113 h114 J115 q116 => ?_)
  obtain ⟨t117, rfl, le118, g119, K120, n121⟩ := q116
  show Wlk _ _ _ _ _ _ _ _ _ h114 2 12 9 #[.val (.ref s), .val (.ref a)] []
  refine Wlk.return_ dc_jdk_42_method_3_code_9 rfl (by decide) (by decide) ?_
  exact ⟨t117, rfl, (Nat.le_trans (Nat.le_refl _) le118), g119, ((Keep.refl h0 [s]).trans K120 (allS (Or.inl (List.mem_of_getElem? (i := 0) rfl)) all0)), n121⟩

set_option maxRecDepth 65536 in
set_option maxHeartbeats 40000000 in
theorem st_pciR {l : Launch} {Z : State} {a0 : Array Value} (hw : ∀ d ∈ tables_1, d.before a0 Z = true) (i : Nat) (n : Nat) (f : Addr) (h0 : Heap) (hi : i < n) (hn : n ≤ 10000) :
    Met l Z (⟨"jdk/internal/util/Preconditions", "checkIndex", "(IILjava/util/function/BiFunction;)I"⟩ : MethodName) jdk_41_method_11_code 3 (some .int) false [] ({ frames := 0, cells := 0, slots := 0, locals := 0 } : Room) #[(.int (Int32.ofNat i)), (.int (Int32.ofNat n)), (.ref f)] h0 (false, [], []) (fun v h J' => v = some (.int (Int32.ofNat i)) ∧ h0 = h) := by
  refine Met.of_goes (Ls := #[.val (.int (Int32.ofNat i)), .val (.int (Int32.ofNat n)), .val (.ref f)]) (by first | exact plainFor_of_name (by first | (simp [plainName, overriddenIn]; done) | decide +kernel) | decide +kernel) (fun m => by first | (simp [entryFrame, mkF, argsToLocals, Value.category]; done) | rfl) rfl (fun G hGl => ?_)
  subst hGl
  refine Wlk.iloadN (pc' := 1) (v := (Int32.ofNat i)) dc_jdk_41_method_11_code_0 rfl rfl ?_
  refine Wlk.ifF (pc' := 4) dc_jdk_41_method_11_code_1 (show ¬ ((Int32.ofNat i) < (0 : Int32)) from (i32_nn (by omega))) rfl ?_
  refine Wlk.iloadN (pc' := 5) (v := (Int32.ofNat i)) dc_jdk_41_method_11_code_4 rfl rfl ?_
  refine Wlk.iloadN (pc' := 6) (v := (Int32.ofNat n)) dc_jdk_41_method_11_code_5 rfl rfl ?_
  refine Wlk.icT (pc' := 16) dc_jdk_41_method_11_code_6 (by decide) (by decide) (show (Int32.ofNat i) < (Int32.ofNat n) from ((i32_lt (by omega) (by omega)).mpr (by omega))) ?_
  refine Wlk.iloadN (pc' := 17) (v := (Int32.ofNat i)) dc_jdk_41_method_11_code_16 rfl rfl ?_
  refine Wlk.ireturnI dc_jdk_41_method_11_code_17 rfl (by decide) (by decide) ?_
  exact ⟨rfl, rfl⟩

set_option maxRecDepth 65536 in
set_option maxHeartbeats 40000000 in
theorem st_pciN {l : Launch} {Z : State} {a0 : Array Value} (hw : ∀ d ∈ tables_1, d.before a0 Z = true) (i : Nat) (n : Nat) (h0 : Heap) (hi : i < n) (hn : n ≤ 10000) :
    Met l Z (⟨"jdk/internal/util/Preconditions", "checkIndex", "(IILjava/util/function/BiFunction;)I"⟩ : MethodName) jdk_41_method_11_code 3 (some .int) false [] ({ frames := 0, cells := 0, slots := 0, locals := 0 } : Room) #[(.int (Int32.ofNat i)), (.int (Int32.ofNat n)), .null] h0 (false, [], []) (fun v h J' => v = some (.int (Int32.ofNat i)) ∧ h0 = h) := by
  refine Met.of_goes (Ls := #[.val (.int (Int32.ofNat i)), .val (.int (Int32.ofNat n)), .val .null]) (by first | exact plainFor_of_name (by first | (simp [plainName, overriddenIn]; done) | decide +kernel) | decide +kernel) (fun m => by first | (simp [entryFrame, mkF, argsToLocals, Value.category]; done) | rfl) rfl (fun G hGl => ?_)
  subst hGl
  refine Wlk.iloadN (pc' := 1) (v := (Int32.ofNat i)) dc_jdk_41_method_11_code_0 rfl rfl ?_
  refine Wlk.ifF (pc' := 4) dc_jdk_41_method_11_code_1 (show ¬ ((Int32.ofNat i) < (0 : Int32)) from (i32_nn (by omega))) rfl ?_
  refine Wlk.iloadN (pc' := 5) (v := (Int32.ofNat i)) dc_jdk_41_method_11_code_4 rfl rfl ?_
  refine Wlk.iloadN (pc' := 6) (v := (Int32.ofNat n)) dc_jdk_41_method_11_code_5 rfl rfl ?_
  refine Wlk.icT (pc' := 16) dc_jdk_41_method_11_code_6 (by decide) (by decide) (show (Int32.ofNat i) < (Int32.ofNat n) from ((i32_lt (by omega) (by omega)).mpr (by omega))) ?_
  refine Wlk.iloadN (pc' := 17) (v := (Int32.ofNat i)) dc_jdk_41_method_11_code_16 rfl rfl ?_
  refine Wlk.ireturnI dc_jdk_41_method_11_code_17 rfl (by decide) (by decide) ?_
  exact ⟨rfl, rfl⟩

set_option maxRecDepth 65536 in
set_option maxHeartbeats 40000000 in
theorem st_ci {l : Launch} {Z : State} {a0 : Array Value} (hw : ∀ d ∈ tables_1, d.before a0 Z = true) (i : Nat) (n : Nat) (sf : Value) (h0 : Heap) (q0_Sta : Sta Z Z.heap "jdk/internal/util/Preconditions" "SIOOBE_FORMATTER" "Ljava/util/function/BiFunction;" sf) (hsf : sf.isRef = true) (hi : i < n) (hn : n ≤ 10000) :
    Met l Z (⟨"java/lang/String", "checkIndex", "(II)V"⟩ : MethodName) jdk_42_method_155_code 2 none false [] ({ frames := 1, cells := 0, slots := 0, locals := 14 } : Room) #[(.int (Int32.ofNat i)), (.int (Int32.ofNat n))] h0 (false, [], []) (fun v h J' => v = none ∧ h0 = h) := by
  refine Met.of_goes (Ls := #[.val (.int (Int32.ofNat i)), .val (.int (Int32.ofNat n))]) (by first | exact plainFor_of_name (by first | (simp [plainName, overriddenIn]; done) | decide +kernel) | decide +kernel) (fun m => by first | (simp [entryFrame, mkF, argsToLocals, Value.category]; done) | rfl) rfl (fun G hGl => ?_)
  subst hGl
  refine Wlk.iloadN (pc' := 1) (v := (Int32.ofNat i)) dc_jdk_42_method_155_code_0 rfl rfl ?_
  refine Wlk.iloadN (pc' := 2) (v := (Int32.ofNat n)) dc_jdk_42_method_155_code_1 rfl rfl ?_
  refine Wlk.getS (pc' := 5) (v := sf) dc_jdk_42_method_155_code_2 (hw _ (List.mem_of_getElem? (i := 80) rfl)) Via.refl q0_Sta rfl ?_
  rcases own_ref hsf with rfl | ⟨f, rfl⟩
  · skip
    refine Wlk.callS (pc' := 8) (z := (⟨"jdk/internal/util/Preconditions", "checkIndex", "(IILjava/util/function/BiFunction;)I"⟩ : MethodName)) (argsL := [(.int (Int32.ofNat i)), (.int (Int32.ofNat n)), .null]) (st := []) (W := 0) dc_jdk_42_method_155_code_5 (hw _ (List.mem_of_getElem? (i := 82) rfl)) (hw _ (List.mem_of_getElem? (i := 83) rfl)) (hw _ (List.mem_of_getElem? (i := 81) rfl)) (hw _ (List.mem_of_getElem? (i := 84) rfl)) (by decide) pd_8 rfl (st_pciN hw i n h0 (by omega) (by omega)) (by decide) rfl (by decide) (by decide) (by decide) rfl rfl (fun v122 h123 J124 q125 => ?_)
    obtain ⟨rfl, rfl⟩ := q125
    show Wlk _ _ _ _ _ _ _ _ _ h0 0 0 8 #[.val (.int (Int32.ofNat i)), .val (.int (Int32.ofNat n))] [(.int (Int32.ofNat i))]
    refine Wlk.pop (pc' := 9) dc_jdk_42_method_155_code_8 rfl rfl ?_
    refine Wlk.return_ dc_jdk_42_method_155_code_9 rfl (by decide) (by decide) ?_
    exact ⟨rfl, rfl⟩
  · skip
    refine Wlk.callS (pc' := 8) (z := (⟨"jdk/internal/util/Preconditions", "checkIndex", "(IILjava/util/function/BiFunction;)I"⟩ : MethodName)) (argsL := [(.int (Int32.ofNat i)), (.int (Int32.ofNat n)), (.ref f)]) (st := []) (W := 0) dc_jdk_42_method_155_code_5 (hw _ (List.mem_of_getElem? (i := 82) rfl)) (hw _ (List.mem_of_getElem? (i := 83) rfl)) (hw _ (List.mem_of_getElem? (i := 81) rfl)) (hw _ (List.mem_of_getElem? (i := 84) rfl)) (by decide) pd_8 rfl (st_pciR hw i n f h0 (by omega) (by omega)) (by decide) rfl (by decide) (by decide) (by decide) rfl rfl (fun v126 h127 J128 q129 => ?_)
    obtain ⟨rfl, rfl⟩ := q129
    show Wlk _ _ _ _ _ _ _ _ _ h0 0 0 8 #[.val (.int (Int32.ofNat i)), .val (.int (Int32.ofNat n))] [(.int (Int32.ofNat i))]
    refine Wlk.pop (pc' := 9) dc_jdk_42_method_155_code_8 rfl rfl ?_
    refine Wlk.return_ dc_jdk_42_method_155_code_9 rfl (by decide) (by decide) ?_
    exact ⟨rfl, rfl⟩

set_option maxRecDepth 65536 in
set_option maxHeartbeats 40000000 in
theorem st_isl0 {l : Launch} {Z : State} {a0 : Array Value} (hw : ∀ d ∈ tables_1, d.before a0 Z = true) (s : Addr) (zc : Int32) (h0 : Heap) (q0_Sta : Sta Z Z.heap "java/lang/String" "COMPACT_STRINGS" "Z" (.int zc)) (P3 : ¬ zc = 0) (q2_F : Fld Z h0 s "java/lang/String" "coder" "B" (.int (0 : Int32))) :
    Met l Z (⟨"java/lang/String", "isLatin1", "()Z"⟩ : MethodName) jdk_42_method_154_code 1 (some .boolean) false [] ({ frames := 0, cells := 0, slots := 0, locals := 0 } : Room) #[(.ref s)] h0 (false, [], []) (fun v h J' => v = some (.int (1 : Int32)) ∧ h0 = h) := by
  refine Met.of_goes (Ls := #[.val (.ref s)]) (by first | exact plainFor_of_name (by first | (simp [plainName, overriddenIn]; done) | decide +kernel) | decide +kernel) (fun m => by first | (simp [entryFrame, mkF, argsToLocals, Value.category]; done) | rfl) rfl (fun G hGl => ?_)
  subst hGl
  refine Wlk.getS (pc' := 3) (v := (.int zc)) dc_jdk_42_method_154_code_0 (hw _ (List.mem_of_getElem? (i := 16) rfl)) Via.refl q0_Sta rfl ?_
  refine Wlk.ifF (pc' := 6) dc_jdk_42_method_154_code_3 (show ¬ (zc = (0 : Int32)) from P3) rfl ?_
  refine Wlk.aloadN (pc' := 7) (v := (.ref s)) dc_jdk_42_method_154_code_6 rfl rfl rfl ?_
  refine Wlk.getF (pc' := 10) (v := (.int (0 : Int32))) dc_jdk_42_method_154_code_7 (hw _ (List.mem_of_getElem? (i := 28) rfl)) Via.refl q2_F rfl ?_
  refine Wlk.ifF (pc' := 13) dc_jdk_42_method_154_code_10 (show (0 : Int32) = (0 : Int32) from by decide) rfl ?_
  refine Wlk.iconst (pc' := 14) (v := (1 : Int32)) dc_jdk_42_method_154_code_13 rfl rfl ?_
  refine Wlk.goto (pc' := 18) dc_jdk_42_method_154_code_14 (by decide) (by decide) ?_
  refine Wlk.ireturnN (t := .boolean) dc_jdk_42_method_154_code_18 rfl (by simp) (by decide) (by decide) ?_
  exact ⟨rfl, rfl⟩

set_option maxRecDepth 65536 in
set_option maxHeartbeats 40000000 in
theorem st_isl1 {l : Launch} {Z : State} {a0 : Array Value} (hw : ∀ d ∈ tables_1, d.before a0 Z = true) (s : Addr) (zc : Int32) (h0 : Heap) (q0_Sta : Sta Z Z.heap "java/lang/String" "COMPACT_STRINGS" "Z" (.int zc)) (P3 : ¬ zc = 0) (q2_F : Fld Z h0 s "java/lang/String" "coder" "B" (.int (1 : Int32))) :
    Met l Z (⟨"java/lang/String", "isLatin1", "()Z"⟩ : MethodName) jdk_42_method_154_code 1 (some .boolean) false [] ({ frames := 0, cells := 0, slots := 0, locals := 0 } : Room) #[(.ref s)] h0 (false, [], []) (fun v h J' => v = some (.int (0 : Int32)) ∧ h0 = h) := by
  refine Met.of_goes (Ls := #[.val (.ref s)]) (by first | exact plainFor_of_name (by first | (simp [plainName, overriddenIn]; done) | decide +kernel) | decide +kernel) (fun m => by first | (simp [entryFrame, mkF, argsToLocals, Value.category]; done) | rfl) rfl (fun G hGl => ?_)
  subst hGl
  refine Wlk.getS (pc' := 3) (v := (.int zc)) dc_jdk_42_method_154_code_0 (hw _ (List.mem_of_getElem? (i := 16) rfl)) Via.refl q0_Sta rfl ?_
  refine Wlk.ifF (pc' := 6) dc_jdk_42_method_154_code_3 (show ¬ (zc = (0 : Int32)) from P3) rfl ?_
  refine Wlk.aloadN (pc' := 7) (v := (.ref s)) dc_jdk_42_method_154_code_6 rfl rfl rfl ?_
  refine Wlk.getF (pc' := 10) (v := (.int (1 : Int32))) dc_jdk_42_method_154_code_7 (hw _ (List.mem_of_getElem? (i := 28) rfl)) Via.refl q2_F rfl ?_
  refine Wlk.ifT (pc' := 17) dc_jdk_42_method_154_code_10 (by decide) (by decide) (show ¬ ((1 : Int32) = (0 : Int32)) from by decide) ?_
  refine Wlk.iconst (pc' := 18) (v := (0 : Int32)) dc_jdk_42_method_154_code_17 rfl rfl ?_
  refine Wlk.ireturnN (t := .boolean) dc_jdk_42_method_154_code_18 rfl (by simp) (by decide) (by decide) ?_
  exact ⟨rfl, rfl⟩

set_option maxRecDepth 65536 in
set_option maxHeartbeats 40000000 in
theorem st_ulen {l : Launch} {Z : State} {a0 : Array Value} (hw : ∀ d ∈ tables_1, d.before a0 Z = true) (t : Addr) (n : Nat) (kb : ClassId) (vs : List Value) (d : Value) (h0 : Heap) (q0_A : Arv Z h0 t kb .byte (Int32.ofNat (2 * n)) vs d) (hn : n ≤ 4000) :
    Met l Z (⟨"java/lang/StringUTF16", "length", "([B)I"⟩ : MethodName) jdk_52_method_6_code 1 (some .int) false [] ({ frames := 0, cells := 0, slots := 0, locals := 0 } : Room) #[(.ref t)] h0 (false, [], []) (fun v h J' => v = some (.int (Int32.ofNat n)) ∧ h0 = h) := by
  refine Met.of_goes (Ls := #[.val (.ref t)]) (by first | exact plainFor_of_name (by first | (simp [plainName, overriddenIn]; done) | decide +kernel) | decide +kernel) (fun m => by first | (simp [entryFrame, mkF, argsToLocals, Value.category]; done) | rfl) rfl (fun G hGl => ?_)
  subst hGl
  refine Wlk.aloadN (pc' := 1) (v := (.ref t)) dc_jdk_52_method_6_code_0 rfl rfl rfl ?_
  refine Wlk.arraylength (pc' := 2) dc_jdk_52_method_6_code_1 q0_A rfl ?_
  refine Wlk.iconst (pc' := 3) (v := (1 : Int32)) dc_jdk_52_method_6_code_2 rfl rfl ?_
  refine Wlk.ishr (pc' := 4) dc_jdk_52_method_6_code_3 rfl ?_
  refine Wlk.ireturnI dc_jdk_52_method_6_code_4 rfl (by decide) (by decide) ?_
  exact ⟨(by rw [i32_shr1 _ (by omega)]), rfl⟩

set_option maxRecDepth 65536 in
set_option maxHeartbeats 40000000 in
theorem st_uci {l : Launch} {Z : State} {a0 : Array Value} (hw : ∀ d ∈ tables_1, d.before a0 Z = true) (t : Addr) (i : Nat) (kb : ClassId) (cs : List Int32) (sf : Value) (h0 : Heap) (q0_Sta : Sta Z Z.heap "jdk/internal/util/Preconditions" "SIOOBE_FORMATTER" "Ljava/util/function/BiFunction;" sf) (hsf : sf.isRef = true) (q2_A : Arv Z h0 t kb .byte (Int32.ofNat (2 * cs.length)) (vU cs) (.int 0)) (hi : i < cs.length) (hn : cs.length ≤ 4000) :
    Met l Z (⟨"java/lang/StringUTF16", "checkIndex", "(I[B)V"⟩ : MethodName) jdk_52_method_91_code 2 none false [] ({ frames := 2, cells := 0, slots := 0, locals := 27 } : Room) #[(.int (Int32.ofNat i)), (.ref t)] h0 (false, [], []) (fun v h J' => v = none ∧ h0 = h) := by
  refine Met.of_goes (Ls := #[.val (.int (Int32.ofNat i)), .val (.ref t)]) (by first | exact plainFor_of_name (by first | (simp [plainName, overriddenIn]; done) | decide +kernel) | decide +kernel) (fun m => by first | (simp [entryFrame, mkF, argsToLocals, Value.category]; done) | rfl) rfl (fun G hGl => ?_)
  subst hGl
  refine Wlk.iloadN (pc' := 1) (v := (Int32.ofNat i)) dc_jdk_52_method_91_code_0 rfl rfl ?_
  refine Wlk.aloadN (pc' := 2) (v := (.ref t)) dc_jdk_52_method_91_code_1 rfl rfl rfl ?_
  refine Wlk.callS (pc' := 5) (z := (⟨"java/lang/StringUTF16", "length", "([B)I"⟩ : MethodName)) (argsL := [(.ref t)]) (st := [(.int (Int32.ofNat i))]) (W := 1) dc_jdk_52_method_91_code_2 (hw _ (List.mem_of_getElem? (i := 116) rfl)) (hw _ (List.mem_of_getElem? (i := 117) rfl)) (hw _ (List.mem_of_getElem? (i := 19) rfl)) (hw _ (List.mem_of_getElem? (i := 118) rfl)) (by decide) pd_9 rfl (st_ulen hw t cs.length kb (vU cs) (.int 0) h0 q2_A (by omega)) (by decide) rfl (by decide) (by decide) (by decide) rfl rfl (fun v130 h131 J132 q133 => ?_)
  obtain ⟨rfl, rfl⟩ := q133
  show Wlk _ _ _ _ _ _ _ _ _ h0 0 0 5 #[.val (.int (Int32.ofNat i)), .val (.ref t)] [(.int (Int32.ofNat cs.length)), (.int (Int32.ofNat i))]
  refine Wlk.callS (pc' := 8) (z := (⟨"java/lang/String", "checkIndex", "(II)V"⟩ : MethodName)) (argsL := [(.int (Int32.ofNat i)), (.int (Int32.ofNat cs.length))]) (st := []) (W := 0) dc_jdk_52_method_91_code_5 (hw _ (List.mem_of_getElem? (i := 131) rfl)) (hw _ (List.mem_of_getElem? (i := 78) rfl)) (hw _ (List.mem_of_getElem? (i := 5) rfl)) (hw _ (List.mem_of_getElem? (i := 79) rfl)) (by decide) pd_10 rfl (st_ci hw i cs.length sf h0 q0_Sta hsf (by omega) (by omega)) (by decide) rfl (by decide) (by decide) (by decide) rfl rfl (fun v134 h135 J136 q137 => ?_)
  obtain ⟨rfl, rfl⟩ := q137
  show Wlk _ _ _ _ _ _ _ _ _ h0 0 0 8 #[.val (.int (Int32.ofNat i)), .val (.ref t)] []
  refine Wlk.return_ dc_jdk_52_method_91_code_8 rfl (by decide) (by decide) ?_
  exact ⟨rfl, rfl⟩

set_option maxRecDepth 65536 in
set_option maxHeartbeats 40000000 in
theorem st_uca {l : Launch} {Z : State} {a0 : Array Value} (hw : ∀ d ∈ tables_1, d.before a0 Z = true) (t : Addr) (i : Nat) (kb : ClassId) (cs : List Int32) (sf : Value) (c : Int32) (h0 : Heap) (q0_Sta : Sta Z Z.heap "java/lang/StringUTF16" "$assertionsDisabled" "Z" (.int (1 : Int32))) (q1_Sta : Sta Z Z.heap "java/lang/StringUTF16" "HI_BYTE_SHIFT" "I" (.int (0 : Int32))) (q2_Sta : Sta Z Z.heap "java/lang/StringUTF16" "LO_BYTE_SHIFT" "I" (.int (8 : Int32))) (q3_Sta : Sta Z Z.heap "jdk/internal/util/Preconditions" "SIOOBE_FORMATTER" "Ljava/util/function/BiFunction;" sf) (hsf : sf.isRef = true) (q5_A : Arv Z h0 t kb .byte (Int32.ofNat (2 * cs.length)) (vU cs) (.int 0)) (hi : i < cs.length) (hn : cs.length ≤ 4000) (hc : cs[i]? = some c) (r0 : ¬ c < 0) (r1 : ¬ (65535 : Int32) < c) :
    Met l Z (⟨"java/lang/StringUTF16", "charAt", "([BI)C"⟩ : MethodName) jdk_52_method_83_code 2 (some .char) false [] ({ frames := 3, cells := 0, slots := 0, locals := 40 } : Room) #[(.ref t), (.int (Int32.ofNat i))] h0 (false, [], []) (fun v h J' => v = some (.int c) ∧ h0 = h) := by
  refine Met.of_goes (Ls := #[.val (.ref t), .val (.int (Int32.ofNat i))]) (by first | exact plainFor_of_name (by first | (simp [plainName, overriddenIn]; done) | decide +kernel) | decide +kernel) (fun m => by first | (simp [entryFrame, mkF, argsToLocals, Value.category]; done) | rfl) rfl (fun G hGl => ?_)
  subst hGl
  refine Wlk.iloadN (pc' := 1) (v := (Int32.ofNat i)) dc_jdk_52_method_83_code_0 rfl rfl ?_
  refine Wlk.aloadN (pc' := 2) (v := (.ref t)) dc_jdk_52_method_83_code_1 rfl rfl rfl ?_
  refine Wlk.callS (pc' := 5) (z := (⟨"java/lang/StringUTF16", "checkIndex", "(I[B)V"⟩ : MethodName)) (argsL := [(.int (Int32.ofNat i)), (.ref t)]) (st := []) (W := 0) dc_jdk_52_method_83_code_2 (hw _ (List.mem_of_getElem? (i := 128) rfl)) (hw _ (List.mem_of_getElem? (i := 129) rfl)) (hw _ (List.mem_of_getElem? (i := 19) rfl)) (hw _ (List.mem_of_getElem? (i := 130) rfl)) (by decide) pd_11 rfl (st_uci hw t i kb cs sf h0 q3_Sta hsf q5_A hi (by first | exact hn | omega | exact Nat.le_of_ble_eq_true rfl)) (by decide) rfl (by decide) (by decide) (by decide) rfl rfl (fun v138 h139 J140 q141 => ?_)
  obtain ⟨rfl, rfl⟩ := q141
  show Wlk _ _ _ _ _ _ _ _ _ h0 0 0 5 #[.val (.ref t), .val (.int (Int32.ofNat i))] []
  refine Wlk.aloadN (pc' := 6) (v := (.ref t)) dc_jdk_52_method_83_code_5 rfl rfl rfl ?_
  refine Wlk.iloadN (pc' := 7) (v := (Int32.ofNat i)) dc_jdk_52_method_83_code_6 rfl rfl ?_
  refine Wlk.callS (pc' := 10) (z := (⟨"java/lang/StringUTF16", "getChar", "([BI)C"⟩ : MethodName)) (argsL := [(.ref t), (.int (Int32.ofNat i))]) (st := []) (W := 0) dc_jdk_52_method_83_code_7 (hw _ (List.mem_of_getElem? (i := 104) rfl)) (hw _ (List.mem_of_getElem? (i := 105) rfl)) (hw _ (List.mem_of_getElem? (i := 19) rfl)) (hw _ (List.mem_of_getElem? (i := 106) rfl)) (by decide) pd_5 rfl (st_get hw t i c kb cs h0 q0_Sta q1_Sta q2_Sta q5_A hc r0 r1 hi (by omega)) (by decide) rfl (by decide) (by decide) (by decide) rfl rfl (fun v142 h143 J144 q145 => ?_)
  obtain ⟨rfl, rfl⟩ := q145
  show Wlk _ _ _ _ _ _ _ _ _ h0 0 0 10 #[.val (.ref t), .val (.int (Int32.ofNat i))] [(.int c)]
  refine Wlk.ireturnN (t := .char) dc_jdk_52_method_83_code_10 rfl (by simp) (by decide) (by decide) ?_
  exact ⟨(congrArg (fun z => some (Value.int z)) (nar_char r0 r1)), rfl⟩

set_option maxRecDepth 65536 in
set_option maxHeartbeats 40000000 in
theorem st_lca {l : Launch} {Z : State} {a0 : Array Value} (hw : ∀ d ∈ tables_1, d.before a0 Z = true) (t : Addr) (i : Nat) (kb : ClassId) (cs : List Int32) (sf : Value) (c : Int32) (d : Value) (h0 : Heap) (q0_Sta : Sta Z Z.heap "jdk/internal/util/Preconditions" "SIOOBE_FORMATTER" "Ljava/util/function/BiFunction;" sf) (hsf : sf.isRef = true) (q2_A : Arv Z h0 t kb .byte (Int32.ofNat cs.length) (vL cs) d) (hi : i < cs.length) (hn : cs.length ≤ 4000) (hc : cs[i]? = some c) (r0 : ¬ c < 0) (r2 : ¬ (255 : Int32) < c) :
    Met l Z (⟨"java/lang/StringLatin1", "charAt", "([BI)C"⟩ : MethodName) jdk_43_method_2_code 2 (some .char) false [] ({ frames := 2, cells := 0, slots := 0, locals := 27 } : Room) #[(.ref t), (.int (Int32.ofNat i))] h0 (false, [], []) (fun v h J' => v = some (.int c) ∧ h0 = h) := by
  refine Met.of_goes (Ls := #[.val (.ref t), .val (.int (Int32.ofNat i))]) (by first | exact plainFor_of_name (by first | (simp [plainName, overriddenIn]; done) | decide +kernel) | decide +kernel) (fun m => by first | (simp [entryFrame, mkF, argsToLocals, Value.category]; done) | rfl) rfl (fun G hGl => ?_)
  subst hGl
  refine Wlk.iloadN (pc' := 1) (v := (Int32.ofNat i)) dc_jdk_43_method_2_code_0 rfl rfl ?_
  refine Wlk.aloadN (pc' := 2) (v := (.ref t)) dc_jdk_43_method_2_code_1 rfl rfl rfl ?_
  refine Wlk.arraylength (pc' := 3) dc_jdk_43_method_2_code_2 q2_A rfl ?_
  refine Wlk.callS (pc' := 6) (z := (⟨"java/lang/String", "checkIndex", "(II)V"⟩ : MethodName)) (argsL := [(.int (Int32.ofNat i)), (.int (Int32.ofNat cs.length))]) (st := []) (W := 0) dc_jdk_43_method_2_code_3 (hw _ (List.mem_of_getElem? (i := 77) rfl)) (hw _ (List.mem_of_getElem? (i := 78) rfl)) (hw _ (List.mem_of_getElem? (i := 5) rfl)) (hw _ (List.mem_of_getElem? (i := 79) rfl)) (by decide) pd_10 rfl (st_ci hw i cs.length sf h0 q0_Sta hsf (by omega) (by omega)) (by decide) rfl (by decide) (by decide) (by decide) rfl rfl (fun v146 h147 J148 q149 => ?_)
  obtain ⟨rfl, rfl⟩ := q149
  show Wlk _ _ _ _ _ _ _ _ _ h0 0 0 6 #[.val (.ref t), .val (.int (Int32.ofNat i))] []
  refine Wlk.aloadN (pc' := 7) (v := (.ref t)) dc_jdk_43_method_2_code_6 rfl rfl rfl ?_
  refine Wlk.iloadN (pc' := 8) (v := (Int32.ofNat i)) dc_jdk_43_method_2_code_7 rfl rfl ?_
  refine Wlk.baload (pc' := 9) (v := (.int (bL c))) dc_jdk_43_method_2_code_8 q2_A ⟨i32_nn (by omega), (i32_lt (by omega) (by omega)).mpr (by omega)⟩ (by rw [i32_cl (by omega)]; simp [vL, List.getD_eq_getElem?_getD, hc]) rfl ?_
  refine Wlk.sipush (pc' := 12) (v := (255 : Int32)) dc_jdk_43_method_2_code_9 (by decide) rfl ?_
  refine Wlk.iand (pc' := 13) dc_jdk_43_method_2_code_12 rfl ?_
  refine Wlk.i2c (pc' := 14) dc_jdk_43_method_2_code_13 rfl ?_
  refine Wlk.ireturnN (t := .char) dc_jdk_43_method_2_code_14 rfl (by simp) (by decide) (by decide) ?_
  exact ⟨(congrArg (fun z => some (Value.int z)) (l_get r0 r2)), rfl⟩

set_option maxRecDepth 65536 in
set_option maxHeartbeats 40000000 in
theorem st_ca {l : Launch} {Z : State} {a0 : Array Value} (hw : ∀ d ∈ tables_1, d.before a0 Z = true) (s : Addr) (t : Addr) (i : Nat) (c : Int32) (cs : List Int32) (sf : Value) (zc : Int32) (h0 : Heap) (q0_Sta : Sta Z Z.heap "java/lang/StringUTF16" "$assertionsDisabled" "Z" (.int (1 : Int32))) (q1_Sta : Sta Z Z.heap "java/lang/StringUTF16" "HI_BYTE_SHIFT" "I" (.int (0 : Int32))) (q2_Sta : Sta Z Z.heap "java/lang/StringUTF16" "LO_BYTE_SHIFT" "I" (.int (8 : Int32))) (q3_Sta : Sta Z Z.heap "jdk/internal/util/Preconditions" "SIOOBE_FORMATTER" "Ljava/util/function/BiFunction;" sf) (hsf : sf.isRef = true) (q5_Sta : Sta Z Z.heap "java/lang/String" "COMPACT_STRINGS" "Z" (.int zc)) (P3 : ¬ zc = 0) (q7_SA : StrA Z h0 s t cs) (hi : i < cs.length) (hn : cs.length ≤ 4000) (hc : cs[i]? = some c) (r0 : ¬ c < 0) (r1 : ¬ (65535 : Int32) < c) :
    Met l Z (⟨"java/lang/String", "charAt", "(I)C"⟩ : MethodName) jdk_42_method_56_code 2 (some .char) false [] ({ frames := 4, cells := 0, slots := 0, locals := 53 } : Room) #[(.ref s), (.int (Int32.ofNat i))] h0 (false, [], []) (fun v h J' => v = some (.int c) ∧ h0 = h) := by
  refine Met.of_goes (Ls := #[.val (.ref s), .val (.int (Int32.ofNat i))]) (by first | exact plainFor_of_name (by first | (simp [plainName, overriddenIn]; done) | decide +kernel) | decide +kernel) (fun m => by first | (simp [entryFrame, mkF, argsToLocals, Value.category]; done) | rfl) rfl (fun G hGl => ?_)
  subst hGl
  rcases q7_SA with ⟨hlat, S⟩ | ⟨hlat, S⟩
  · skip
    obtain ⟨Es, Vs, Cs, ks, As⟩ := S
    refine Wlk.aloadN (pc' := 1) (v := (.ref s)) dc_jdk_42_method_56_code_0 rfl rfl rfl ?_
    refine Wlk.callV (pc' := 4) (a := s) (x := (⟨"java/lang/String", "isLatin1", "()Z"⟩ : MethodName)) (C := "java/lang/String") (z := (⟨"java/lang/String", "isLatin1", "()Z"⟩ : MethodName)) (argsL := []) (st := []) (W := 0) dc_jdk_42_method_56_code_1 (hw _ (List.mem_of_getElem? (i := 41) rfl)) (hw _ (List.mem_of_getElem? (i := 42) rfl)) (fun s q => notFace_of_selects (args := #[]) (mvT q (hw _ (List.mem_of_getElem? (i := 44) rfl)))) (hw _ (List.mem_of_getElem? (i := 44) rfl)) (hw _ (List.mem_of_getElem? (i := 43) rfl)) Es (hw _ (List.mem_of_getElem? (i := 5) rfl)) (hw _ (List.mem_of_getElem? (i := 45) rfl)) (by decide) pd_12 rfl (st_isl0 hw s zc h0 q5_Sta P3 Cs) (by decide) rfl (by decide) (by decide) (by decide) rfl rfl (fun v150 h151 J152 q153 => ?_)
    obtain ⟨rfl, rfl⟩ := q153
    show Wlk _ _ _ _ _ _ _ _ _ h0 0 0 4 #[.val (.ref s), .val (.int (Int32.ofNat i))] [(.int (1 : Int32))]
    refine Wlk.ifF (pc' := 7) dc_jdk_42_method_56_code_4 (show ¬ ((1 : Int32) = (0 : Int32)) from by decide) rfl ?_
    refine Wlk.aloadN (pc' := 8) (v := (.ref s)) dc_jdk_42_method_56_code_7 rfl rfl rfl ?_
    refine Wlk.getF (pc' := 11) (v := (.ref t)) dc_jdk_42_method_56_code_8 (hw _ (List.mem_of_getElem? (i := 30) rfl)) Via.refl Vs rfl ?_
    refine Wlk.iloadN (pc' := 12) (v := (Int32.ofNat i)) dc_jdk_42_method_56_code_11 rfl rfl ?_
    refine Wlk.callS (pc' := 15) (z := (⟨"java/lang/StringLatin1", "charAt", "([BI)C"⟩ : MethodName)) (argsL := [(.ref t), (.int (Int32.ofNat i))]) (st := []) (W := 0) dc_jdk_42_method_56_code_12 (hw _ (List.mem_of_getElem? (i := 74) rfl)) (hw _ (List.mem_of_getElem? (i := 75) rfl)) (hw _ (List.mem_of_getElem? (i := 48) rfl)) (hw _ (List.mem_of_getElem? (i := 76) rfl)) (by decide) pd_5 rfl (st_lca hw t i ks cs sf c (.int 0) h0 q3_Sta hsf As hi (by first | exact hn | omega | exact Nat.le_of_ble_eq_true rfl) hc r0 (lat_mem hlat c (List.mem_of_getElem? hc))) (by decide) rfl (by decide) (by decide) (by decide) rfl rfl (fun v154 h155 J156 q157 => ?_)
    obtain ⟨rfl, rfl⟩ := q157
    show Wlk _ _ _ _ _ _ _ _ _ h0 0 0 15 #[.val (.ref s), .val (.int (Int32.ofNat i))] [(.int c)]
    refine Wlk.ireturnN (t := .char) dc_jdk_42_method_56_code_15 rfl (by simp) (by decide) (by decide) ?_
    exact ⟨(congrArg (fun z => some (Value.int z)) (nar_char r0 r1)), rfl⟩
  · skip
    obtain ⟨Es, Vs, Cs, ks, As⟩ := S
    refine Wlk.aloadN (pc' := 1) (v := (.ref s)) dc_jdk_42_method_56_code_0 rfl rfl rfl ?_
    refine Wlk.callV (pc' := 4) (a := s) (x := (⟨"java/lang/String", "isLatin1", "()Z"⟩ : MethodName)) (C := "java/lang/String") (z := (⟨"java/lang/String", "isLatin1", "()Z"⟩ : MethodName)) (argsL := []) (st := []) (W := 0) dc_jdk_42_method_56_code_1 (hw _ (List.mem_of_getElem? (i := 41) rfl)) (hw _ (List.mem_of_getElem? (i := 42) rfl)) (fun s q => notFace_of_selects (args := #[]) (mvT q (hw _ (List.mem_of_getElem? (i := 44) rfl)))) (hw _ (List.mem_of_getElem? (i := 44) rfl)) (hw _ (List.mem_of_getElem? (i := 43) rfl)) Es (hw _ (List.mem_of_getElem? (i := 5) rfl)) (hw _ (List.mem_of_getElem? (i := 45) rfl)) (by decide) pd_12 rfl (st_isl1 hw s zc h0 q5_Sta P3 Cs) (by decide) rfl (by decide) (by decide) (by decide) rfl rfl (fun v158 h159 J160 q161 => ?_)
    obtain ⟨rfl, rfl⟩ := q161
    show Wlk _ _ _ _ _ _ _ _ _ h0 0 0 4 #[.val (.ref s), .val (.int (Int32.ofNat i))] [(.int (0 : Int32))]
    refine Wlk.ifT (pc' := 16) dc_jdk_42_method_56_code_4 (by decide) (by decide) (show (0 : Int32) = (0 : Int32) from by decide) ?_
    refine Wlk.aloadN (pc' := 17) (v := (.ref s)) dc_jdk_42_method_56_code_16 rfl rfl rfl ?_
    refine Wlk.getF (pc' := 20) (v := (.ref t)) dc_jdk_42_method_56_code_17 (hw _ (List.mem_of_getElem? (i := 30) rfl)) Via.refl Vs rfl ?_
    refine Wlk.iloadN (pc' := 21) (v := (Int32.ofNat i)) dc_jdk_42_method_56_code_20 rfl rfl ?_
    refine Wlk.callS (pc' := 24) (z := (⟨"java/lang/StringUTF16", "charAt", "([BI)C"⟩ : MethodName)) (argsL := [(.ref t), (.int (Int32.ofNat i))]) (st := []) (W := 0) dc_jdk_42_method_56_code_21 (hw _ (List.mem_of_getElem? (i := 125) rfl)) (hw _ (List.mem_of_getElem? (i := 126) rfl)) (hw _ (List.mem_of_getElem? (i := 19) rfl)) (hw _ (List.mem_of_getElem? (i := 127) rfl)) (by decide) pd_5 rfl (st_uca hw t i ks cs sf c h0 q0_Sta q1_Sta q2_Sta q3_Sta hsf As hi (by first | exact hn | omega | exact Nat.le_of_ble_eq_true rfl) hc r0 r1) (by decide) rfl (by decide) (by decide) (by decide) rfl rfl (fun v162 h163 J164 q165 => ?_)
    obtain ⟨rfl, rfl⟩ := q165
    show Wlk _ _ _ _ _ _ _ _ _ h0 0 0 24 #[.val (.ref s), .val (.int (Int32.ofNat i))] [(.int c)]
    refine Wlk.ireturnN (t := .char) dc_jdk_42_method_56_code_24 rfl (by simp) (by decide) (by decide) ?_
    exact ⟨(congrArg (fun z => some (Value.int z)) (nar_char r0 r1)), rfl⟩

set_option maxRecDepth 65536 in
set_option maxHeartbeats 40000000 in
theorem st_cfsR {l : Launch} {Z : State} {a0 : Array Value} (hw : ∀ d ∈ tables_1, d.before a0 Z = true) (n : Nat) (f : Addr) (h0 : Heap) (hn : n ≤ 4000) :
    Met l Z (⟨"jdk/internal/util/Preconditions", "checkFromIndexSize", "(IIILjava/util/function/BiFunction;)I"⟩ : MethodName) jdk_41_method_13_code 4 (some .int) false [] ({ frames := 0, cells := 0, slots := 0, locals := 0 } : Room) #[(.int (0 : Int32)), (.int (Int32.ofNat n)), (.int (Int32.ofNat n)), (.ref f)] h0 (false, [], []) (fun v h J' => v = some (.int (0 : Int32)) ∧ h0 = h) := by
  refine Met.of_goes (Ls := #[.val (.int (0 : Int32)), .val (.int (Int32.ofNat n)), .val (.int (Int32.ofNat n)), .val (.ref f)]) (by first | exact plainFor_of_name (by first | (simp [plainName, overriddenIn]; done) | decide +kernel) | decide +kernel) (fun m => by first | (simp [entryFrame, mkF, argsToLocals, Value.category]; done) | rfl) rfl (fun G hGl => ?_)
  subst hGl
  refine Wlk.iloadN (pc' := 1) (v := (Int32.ofNat n)) dc_jdk_41_method_13_code_0 rfl rfl ?_
  refine Wlk.iloadN (pc' := 2) (v := (0 : Int32)) dc_jdk_41_method_13_code_1 rfl rfl ?_
  refine Wlk.ior (pc' := 3) dc_jdk_41_method_13_code_2 rfl ?_
  refine Wlk.iloadN (pc' := 4) (v := (Int32.ofNat n)) dc_jdk_41_method_13_code_3 rfl rfl ?_
  refine Wlk.ior (pc' := 5) dc_jdk_41_method_13_code_4 rfl ?_
  refine Wlk.ifF (pc' := 8) dc_jdk_41_method_13_code_5 (show ¬ ((((Int32.ofNat n) ||| (0 : Int32)) ||| (Int32.ofNat n)) < (0 : Int32)) from (or0 n (by omega))) rfl ?_
  refine Wlk.iloadN (pc' := 9) (v := (Int32.ofNat n)) dc_jdk_41_method_13_code_8 rfl rfl ?_
  refine Wlk.iloadN (pc' := 10) (v := (Int32.ofNat n)) dc_jdk_41_method_13_code_9 rfl rfl ?_
  refine Wlk.iloadN (pc' := 11) (v := (0 : Int32)) dc_jdk_41_method_13_code_10 rfl rfl ?_
  refine Wlk.isub (pc' := 12) dc_jdk_41_method_13_code_11 rfl ?_
  rw [Int32.sub_zero]
  refine Wlk.icT (pc' := 23) dc_jdk_41_method_13_code_12 (by decide) (by decide) (show ¬ ((Int32.ofNat n) < (Int32.ofNat n)) from (fun q => Int32.lt_irrefl q)) ?_
  refine Wlk.iloadN (pc' := 24) (v := (0 : Int32)) dc_jdk_41_method_13_code_23 rfl rfl ?_
  refine Wlk.ireturnI dc_jdk_41_method_13_code_24 rfl (by decide) (by decide) ?_
  exact ⟨rfl, rfl⟩

set_option maxRecDepth 65536 in
set_option maxHeartbeats 40000000 in
theorem st_cfsN {l : Launch} {Z : State} {a0 : Array Value} (hw : ∀ d ∈ tables_1, d.before a0 Z = true) (n : Nat) (h0 : Heap) (hn : n ≤ 4000) :
    Met l Z (⟨"jdk/internal/util/Preconditions", "checkFromIndexSize", "(IIILjava/util/function/BiFunction;)I"⟩ : MethodName) jdk_41_method_13_code 4 (some .int) false [] ({ frames := 0, cells := 0, slots := 0, locals := 0 } : Room) #[(.int (0 : Int32)), (.int (Int32.ofNat n)), (.int (Int32.ofNat n)), .null] h0 (false, [], []) (fun v h J' => v = some (.int (0 : Int32)) ∧ h0 = h) := by
  refine Met.of_goes (Ls := #[.val (.int (0 : Int32)), .val (.int (Int32.ofNat n)), .val (.int (Int32.ofNat n)), .val .null]) (by first | exact plainFor_of_name (by first | (simp [plainName, overriddenIn]; done) | decide +kernel) | decide +kernel) (fun m => by first | (simp [entryFrame, mkF, argsToLocals, Value.category]; done) | rfl) rfl (fun G hGl => ?_)
  subst hGl
  refine Wlk.iloadN (pc' := 1) (v := (Int32.ofNat n)) dc_jdk_41_method_13_code_0 rfl rfl ?_
  refine Wlk.iloadN (pc' := 2) (v := (0 : Int32)) dc_jdk_41_method_13_code_1 rfl rfl ?_
  refine Wlk.ior (pc' := 3) dc_jdk_41_method_13_code_2 rfl ?_
  refine Wlk.iloadN (pc' := 4) (v := (Int32.ofNat n)) dc_jdk_41_method_13_code_3 rfl rfl ?_
  refine Wlk.ior (pc' := 5) dc_jdk_41_method_13_code_4 rfl ?_
  refine Wlk.ifF (pc' := 8) dc_jdk_41_method_13_code_5 (show ¬ ((((Int32.ofNat n) ||| (0 : Int32)) ||| (Int32.ofNat n)) < (0 : Int32)) from (or0 n (by omega))) rfl ?_
  refine Wlk.iloadN (pc' := 9) (v := (Int32.ofNat n)) dc_jdk_41_method_13_code_8 rfl rfl ?_
  refine Wlk.iloadN (pc' := 10) (v := (Int32.ofNat n)) dc_jdk_41_method_13_code_9 rfl rfl ?_
  refine Wlk.iloadN (pc' := 11) (v := (0 : Int32)) dc_jdk_41_method_13_code_10 rfl rfl ?_
  refine Wlk.isub (pc' := 12) dc_jdk_41_method_13_code_11 rfl ?_
  rw [Int32.sub_zero]
  refine Wlk.icT (pc' := 23) dc_jdk_41_method_13_code_12 (by decide) (by decide) (show ¬ ((Int32.ofNat n) < (Int32.ofNat n)) from (fun q => Int32.lt_irrefl q)) ?_
  refine Wlk.iloadN (pc' := 24) (v := (0 : Int32)) dc_jdk_41_method_13_code_23 rfl rfl ?_
  refine Wlk.ireturnI dc_jdk_41_method_13_code_24 rfl (by decide) (by decide) ?_
  exact ⟨rfl, rfl⟩

set_option maxRecDepth 65536 in
set_option maxHeartbeats 40000000 in
theorem st_cbo {l : Launch} {Z : State} {a0 : Array Value} (hw : ∀ d ∈ tables_1, d.before a0 Z = true) (n : Nat) (sf : Value) (h0 : Heap) (q0_Sta : Sta Z Z.heap "jdk/internal/util/Preconditions" "SIOOBE_FORMATTER" "Ljava/util/function/BiFunction;" sf) (hsf : sf.isRef = true) (hn : n ≤ 4000) :
    Met l Z (⟨"java/lang/String", "checkBoundsOffCount", "(III)I"⟩ : MethodName) jdk_42_method_157_code 3 (some .int) false [] ({ frames := 1, cells := 0, slots := 0, locals := 15 } : Room) #[(.int (0 : Int32)), (.int (Int32.ofNat n)), (.int (Int32.ofNat n))] h0 (false, [], []) (fun v h J' => v = some (.int (0 : Int32)) ∧ h0 = h) := by
  refine Met.of_goes (Ls := #[.val (.int (0 : Int32)), .val (.int (Int32.ofNat n)), .val (.int (Int32.ofNat n))]) (by first | exact plainFor_of_name (by first | (simp [plainName, overriddenIn]; done) | decide +kernel) | decide +kernel) (fun m => by first | (simp [entryFrame, mkF, argsToLocals, Value.category]; done) | rfl) rfl (fun G hGl => ?_)
  subst hGl
  refine Wlk.iloadN (pc' := 1) (v := (0 : Int32)) dc_jdk_42_method_157_code_0 rfl rfl ?_
  refine Wlk.iloadN (pc' := 2) (v := (Int32.ofNat n)) dc_jdk_42_method_157_code_1 rfl rfl ?_
  refine Wlk.iloadN (pc' := 3) (v := (Int32.ofNat n)) dc_jdk_42_method_157_code_2 rfl rfl ?_
  refine Wlk.getS (pc' := 6) (v := sf) dc_jdk_42_method_157_code_3 (hw _ (List.mem_of_getElem? (i := 80) rfl)) Via.refl q0_Sta rfl ?_
  rcases own_ref hsf with rfl | ⟨f, rfl⟩
  · skip
    refine Wlk.callS (pc' := 9) (z := (⟨"jdk/internal/util/Preconditions", "checkFromIndexSize", "(IIILjava/util/function/BiFunction;)I"⟩ : MethodName)) (argsL := [(.int (0 : Int32)), (.int (Int32.ofNat n)), (.int (Int32.ofNat n)), .null]) (st := []) (W := 0) dc_jdk_42_method_157_code_6 (hw _ (List.mem_of_getElem? (i := 122) rfl)) (hw _ (List.mem_of_getElem? (i := 123) rfl)) (hw _ (List.mem_of_getElem? (i := 81) rfl)) (hw _ (List.mem_of_getElem? (i := 124) rfl)) (by decide) pd_13 rfl (st_cfsN hw n h0 (by omega)) (by decide) rfl (by decide) (by decide) (by decide) rfl rfl (fun v166 h167 J168 q169 => ?_)
    obtain ⟨rfl, rfl⟩ := q169
    show Wlk _ _ _ _ _ _ _ _ _ h0 0 0 9 #[.val (.int (0 : Int32)), .val (.int (Int32.ofNat n)), .val (.int (Int32.ofNat n))] [(.int (0 : Int32))]
    refine Wlk.ireturnI dc_jdk_42_method_157_code_9 rfl (by decide) (by decide) ?_
    exact ⟨rfl, rfl⟩
  · skip
    refine Wlk.callS (pc' := 9) (z := (⟨"jdk/internal/util/Preconditions", "checkFromIndexSize", "(IIILjava/util/function/BiFunction;)I"⟩ : MethodName)) (argsL := [(.int (0 : Int32)), (.int (Int32.ofNat n)), (.int (Int32.ofNat n)), (.ref f)]) (st := []) (W := 0) dc_jdk_42_method_157_code_6 (hw _ (List.mem_of_getElem? (i := 122) rfl)) (hw _ (List.mem_of_getElem? (i := 123) rfl)) (hw _ (List.mem_of_getElem? (i := 81) rfl)) (hw _ (List.mem_of_getElem? (i := 124) rfl)) (by decide) pd_13 rfl (st_cfsR hw n f h0 (by omega)) (by decide) rfl (by decide) (by decide) (by decide) rfl rfl (fun v170 h171 J172 q173 => ?_)
    obtain ⟨rfl, rfl⟩ := q173
    show Wlk _ _ _ _ _ _ _ _ _ h0 0 0 9 #[.val (.int (0 : Int32)), .val (.int (Int32.ofNat n)), .val (.int (Int32.ofNat n))] [(.int (0 : Int32))]
    refine Wlk.ireturnI dc_jdk_42_method_157_code_9 rfl (by decide) (by decide) ?_
    exact ⟨rfl, rfl⟩

set_option maxRecDepth 65536 in
set_option maxHeartbeats 40000000 in
theorem st_ubo {l : Launch} {Z : State} {a0 : Array Value} (hw : ∀ d ∈ tables_1, d.before a0 Z = true) (t : Addr) (n : Nat) (kb : ClassId) (vs : List Value) (d : Value) (sf : Value) (h0 : Heap) (q0_Sta : Sta Z Z.heap "jdk/internal/util/Preconditions" "SIOOBE_FORMATTER" "Ljava/util/function/BiFunction;" sf) (hsf : sf.isRef = true) (q2_A : Arv Z h0 t kb .byte (Int32.ofNat (2 * n)) vs d) (hn : n ≤ 4000) :
    Met l Z (⟨"java/lang/StringUTF16", "checkBoundsOffCount", "(II[B)V"⟩ : MethodName) jdk_52_method_94_code 3 none false [] ({ frames := 2, cells := 0, slots := 0, locals := 29 } : Room) #[(.int (0 : Int32)), (.int (Int32.ofNat n)), (.ref t)] h0 (false, [], []) (fun v h J' => v = none ∧ h0 = h) := by
  refine Met.of_goes (Ls := #[.val (.int (0 : Int32)), .val (.int (Int32.ofNat n)), .val (.ref t)]) (by first | exact plainFor_of_name (by first | (simp [plainName, overriddenIn]; done) | decide +kernel) | decide +kernel) (fun m => by first | (simp [entryFrame, mkF, argsToLocals, Value.category]; done) | rfl) rfl (fun G hGl => ?_)
  subst hGl
  refine Wlk.iloadN (pc' := 1) (v := (0 : Int32)) dc_jdk_52_method_94_code_0 rfl rfl ?_
  refine Wlk.iloadN (pc' := 2) (v := (Int32.ofNat n)) dc_jdk_52_method_94_code_1 rfl rfl ?_
  refine Wlk.aloadN (pc' := 3) (v := (.ref t)) dc_jdk_52_method_94_code_2 rfl rfl rfl ?_
  refine Wlk.callS (pc' := 6) (z := (⟨"java/lang/StringUTF16", "length", "([B)I"⟩ : MethodName)) (argsL := [(.ref t)]) (st := [(.int (Int32.ofNat n)), (.int (0 : Int32))]) (W := 2) dc_jdk_52_method_94_code_3 (hw _ (List.mem_of_getElem? (i := 116) rfl)) (hw _ (List.mem_of_getElem? (i := 117) rfl)) (hw _ (List.mem_of_getElem? (i := 19) rfl)) (hw _ (List.mem_of_getElem? (i := 118) rfl)) (by decide) pd_9 rfl (st_ulen hw t n kb vs d h0 q2_A (by omega)) (by decide) rfl (by decide) (by decide) (by decide) rfl rfl (fun v174 h175 J176 q177 => ?_)
  obtain ⟨rfl, rfl⟩ := q177
  show Wlk _ _ _ _ _ _ _ _ _ h0 0 0 6 #[.val (.int (0 : Int32)), .val (.int (Int32.ofNat n)), .val (.ref t)] [(.int (Int32.ofNat n)), (.int (Int32.ofNat n)), (.int (0 : Int32))]
  refine Wlk.callS (pc' := 9) (z := (⟨"java/lang/String", "checkBoundsOffCount", "(III)I"⟩ : MethodName)) (argsL := [(.int (0 : Int32)), (.int (Int32.ofNat n)), (.int (Int32.ofNat n))]) (st := []) (W := 0) dc_jdk_52_method_94_code_6 (hw _ (List.mem_of_getElem? (i := 119) rfl)) (hw _ (List.mem_of_getElem? (i := 120) rfl)) (hw _ (List.mem_of_getElem? (i := 5) rfl)) (hw _ (List.mem_of_getElem? (i := 121) rfl)) (by decide) pd_14 rfl (st_cbo hw n sf h0 q0_Sta hsf (by omega)) (by decide) rfl (by decide) (by decide) (by decide) rfl rfl (fun v178 h179 J180 q181 => ?_)
  obtain ⟨rfl, rfl⟩ := q181
  show Wlk _ _ _ _ _ _ _ _ _ h0 0 0 9 #[.val (.int (0 : Int32)), .val (.int (Int32.ofNat n)), .val (.ref t)] [(.int (0 : Int32))]
  refine Wlk.pop (pc' := 10) dc_jdk_52_method_94_code_9 rfl rfl ?_
  refine Wlk.return_ dc_jdk_52_method_94_code_10 rfl (by decide) (by decide) ?_
  exact ⟨rfl, rfl⟩

set_option maxRecDepth 65536 in
set_option maxHeartbeats 40000000 in
theorem st_gch {l : Launch} {Z : State} {a0 : Array Value} (hw : ∀ d ∈ tables_1, d.before a0 Z = true) (t a : Addr) (kb ka : ClassId) (cs : List Int32) (sf : Value) (h0 : Heap) (q0_Sta : Sta Z Z.heap "java/lang/StringUTF16" "$assertionsDisabled" "Z" (.int (1 : Int32))) (q1_Sta : Sta Z Z.heap "java/lang/StringUTF16" "HI_BYTE_SHIFT" "I" (.int (0 : Int32))) (q2_Sta : Sta Z Z.heap "java/lang/StringUTF16" "LO_BYTE_SHIFT" "I" (.int (8 : Int32))) (q3_Sta : Sta Z Z.heap "jdk/internal/util/Preconditions" "SIOOBE_FORMATTER" "Ljava/util/function/BiFunction;" sf) (hsf : sf.isRef = true) (T1 : Arv Z h0 t kb .byte (Int32.ofNat (2 * cs.length)) (vU cs) (.int 0)) (A1 : Arv Z h0 a ka .char (Int32.ofNat cs.length) [] (.int 0)) (hab : t ≠ a) (ga : Z.heap.size ≤ a) (hn : cs.length ≤ 4000) (hp : 0 < cs.length) (hR : ∀ c ∈ cs, ¬ c < 0 ∧ ¬ (65535 : Int32) < c) :
    Met l Z (⟨"java/lang/StringUTF16", "getChars", "([BII[CI)V"⟩ : MethodName) jdk_52_method_26_code 6 none false [] ({ frames := 3, cells := 0, slots := 0, locals := 43 } : Room) #[(.ref t), (.int (0 : Int32)), (.int (Int32.ofNat cs.length)), (.ref a), (.int (0 : Int32))] h0 (false, [], []) (fun v h J => v = none ∧ Keep h0 h [a] ∧ Arv Z h a ka .char (Int32.ofNat cs.length) (vC cs) (.int 0)) := by
  refine Met.of_goes (Ls := #[.val (.ref t), .val (.int (0 : Int32)), .val (.int (Int32.ofNat cs.length)), .val (.ref a), .val (.int (0 : Int32)), .unset]) (by first | exact plainFor_of_name (by first | (simp [plainName, overriddenIn]; done) | decide +kernel) | decide +kernel) (fun m => by first | (simp [entryFrame, mkF, argsToLocals, Value.category]; done) | rfl) rfl (fun G hGl => ?_)
  subst hGl
  refine Wlk.iloadN (pc' := 1) (v := (0 : Int32)) dc_jdk_52_method_26_code_0 rfl rfl ?_
  refine Wlk.iloadN (pc' := 2) (v := (Int32.ofNat cs.length)) dc_jdk_52_method_26_code_1 rfl rfl ?_
  refine Wlk.icF (pc' := 5) dc_jdk_52_method_26_code_2 (show (0 : Int32) < (Int32.ofNat cs.length) from ((i32_lt (i := 0) (by omega) (by omega)).mpr hp)) rfl ?_
  refine Wlk.iloadN (pc' := 6) (v := (0 : Int32)) dc_jdk_52_method_26_code_5 rfl rfl ?_
  refine Wlk.iloadN (pc' := 7) (v := (Int32.ofNat cs.length)) dc_jdk_52_method_26_code_6 rfl rfl ?_
  refine Wlk.iloadN (pc' := 8) (v := (0 : Int32)) dc_jdk_52_method_26_code_7 rfl rfl ?_
  refine Wlk.isub (pc' := 9) dc_jdk_52_method_26_code_8 rfl ?_
  rw [Int32.sub_zero]
  refine Wlk.aloadN (pc' := 10) (v := (.ref t)) dc_jdk_52_method_26_code_9 rfl rfl rfl ?_
  refine Wlk.callS (pc' := 13) (z := (⟨"java/lang/StringUTF16", "checkBoundsOffCount", "(II[B)V"⟩ : MethodName)) (argsL := [(.int (0 : Int32)), (.int (Int32.ofNat cs.length)), (.ref t)]) (st := []) (W := 0) dc_jdk_52_method_26_code_10 (hw _ (List.mem_of_getElem? (i := 113) rfl)) (hw _ (List.mem_of_getElem? (i := 114) rfl)) (hw _ (List.mem_of_getElem? (i := 19) rfl)) (hw _ (List.mem_of_getElem? (i := 115) rfl)) (by decide) pd_15 rfl (st_ubo hw t cs.length kb (vU cs) (.int 0) sf h0 q3_Sta hsf T1 (by omega)) (by decide) rfl (by decide) (by decide) (by decide) rfl rfl (fun v182 h183 J184 q185 => ?_)
  obtain ⟨rfl, rfl⟩ := q185
  show Wlk _ _ _ _ _ _ _ _ _ h0 0 0 13 #[.val (.ref t), .val (.int (0 : Int32)), .val (.int (Int32.ofNat cs.length)), .val (.ref a), .val (.int (0 : Int32)), .unset] []
  refine Wlk.iloadN (pc' := 14) (v := (0 : Int32)) dc_jdk_52_method_26_code_13 rfl rfl ?_
  refine Wlk.istore (pc' := 16) (Ls' := #[.val (.ref t), .val (.int (0 : Int32)), .val (.int (Int32.ofNat cs.length)), .val (.ref a), .val (.int (0 : Int32)), .val (.int (0 : Int32))]) dc_jdk_52_method_26_code_14 rfl rfl rfl ?_
  have loop : ∀ (rest pre : List Int32) (h : Heap), cs = pre ++ rest → Keep h0 h [a] → Arv Z h a ka .char (Int32.ofNat cs.length) (vC pre) (.int 0) → Wlk G ({ frames := 3, cells := 0, slots := 0, locals := 43 } : Room) Z (⟨"java/lang/StringUTF16", "getChars", "([BII[CI)V"⟩ : MethodName) jdk_52_method_26_code none false (false, [], []) (fun v h J => v = none ∧ Keep h0 h [a] ∧ Arv Z h a ka .char (Int32.ofNat cs.length) (vC cs) (.int 0)) h 0 0 16 #[.val (.ref t), .val (.int (0 : Int32)), .val (.int (Int32.ofNat cs.length)), .val (.ref a), .val (.int (Int32.ofNat pre.length)), .val (.int (Int32.ofNat pre.length))] [] := by
    intro rest
    induction rest with
    | nil =>
      intro pre h hcs K B
      rw [List.append_nil] at hcs
      subst hcs
      refine Wlk.iload (pc' := 18) (v := (Int32.ofNat cs.length)) dc_jdk_52_method_26_code_16 rfl rfl ?_
      refine Wlk.iloadN (pc' := 19) (v := (Int32.ofNat cs.length)) dc_jdk_52_method_26_code_18 rfl rfl ?_
      refine Wlk.icT (pc' := 41) dc_jdk_52_method_26_code_19 (by decide) (by decide) (show ¬ ((Int32.ofNat cs.length) < (Int32.ofNat cs.length)) from (fun q => absurd ((i32_lt (by omega) (by omega)).mp q) (Nat.lt_irrefl _))) ?_
      refine Wlk.return_ dc_jdk_52_method_26_code_41 rfl (by decide) (by decide) ?_
      exact ⟨rfl, K, B⟩
    | cons c rest ih =>
      intro pre h hcs K B
      have hl : cs.length = pre.length + (rest.length + 1) := by rw [hcs]; simp
      have T := T1.keep K (ninS hab nin0)
      have B2 := B.pad (pad_rep _ _ 1)
      have hcr := hR c (by rw [hcs]; simp)
      have hc : cs[pre.length]? = some c := by rw [hcs]; simp
      have r0 := hcr.1
      have r1 := hcr.2
      have hi : pre.length < cs.length := by omega
      refine Wlk.iload (pc' := 18) (v := (Int32.ofNat pre.length)) dc_jdk_52_method_26_code_16 rfl rfl ?_
      refine Wlk.iloadN (pc' := 19) (v := (Int32.ofNat cs.length)) dc_jdk_52_method_26_code_18 rfl rfl ?_
      refine Wlk.icF (pc' := 22) dc_jdk_52_method_26_code_19 (show (Int32.ofNat pre.length) < (Int32.ofNat cs.length) from ((i32_lt (by omega) (by omega)).mpr (by omega))) rfl ?_
      refine Wlk.aloadN (pc' := 23) (v := (.ref a)) dc_jdk_52_method_26_code_22 rfl rfl rfl ?_
      refine Wlk.iload (pc' := 25) (v := (Int32.ofNat pre.length)) dc_jdk_52_method_26_code_23 rfl rfl ?_
      refine Wlk.iinc (pc' := 28) (v := (1 : Int32)) (x := (Int32.ofNat pre.length)) (Ls' := #[.val (.ref t), .val (.int (0 : Int32)), .val (.int (Int32.ofNat cs.length)), .val (.ref a), .val (.int ((Int32.ofNat pre.length) + (1 : Int32))), .val (.int (Int32.ofNat pre.length))]) dc_jdk_52_method_26_code_25 (by decide) rfl rfl rfl rfl ?_
      refine Wlk.aloadN (pc' := 29) (v := (.ref t)) dc_jdk_52_method_26_code_28 rfl rfl rfl ?_
      refine Wlk.iload (pc' := 31) (v := (Int32.ofNat pre.length)) dc_jdk_52_method_26_code_29 rfl rfl ?_
      refine Wlk.callS (pc' := 34) (z := (⟨"java/lang/StringUTF16", "getChar", "([BI)C"⟩ : MethodName)) (argsL := [(.ref t), (.int (Int32.ofNat pre.length))]) (st := [(.int (Int32.ofNat pre.length)), (.ref a)]) (W := 2) dc_jdk_52_method_26_code_31 (hw _ (List.mem_of_getElem? (i := 104) rfl)) (hw _ (List.mem_of_getElem? (i := 105) rfl)) (hw _ (List.mem_of_getElem? (i := 19) rfl)) (hw _ (List.mem_of_getElem? (i := 106) rfl)) (by decide) pd_5 rfl (st_get hw t pre.length c kb cs h q0_Sta q1_Sta q2_Sta T hc r0 r1 hi (by omega)) (by decide) rfl (by decide) (by decide) (by decide) rfl rfl (fun v186 h187 J188 q189 => ?_)
      obtain ⟨rfl, rfl⟩ := q189
      show Wlk _ _ _ _ _ _ _ _ _ h 0 0 34 #[.val (.ref t), .val (.int (0 : Int32)), .val (.int (Int32.ofNat cs.length)), .val (.ref a), .val (.int ((Int32.ofNat pre.length) + (1 : Int32))), .val (.int (Int32.ofNat pre.length))] [(.int c), (.int (Int32.ofNat pre.length)), (.ref a)]
      refine Wlk.castore (pc' := 35) (i := pre.length) dc_jdk_52_method_26_code_34 B2 ⟨i32_nn (by omega), (i32_lt (by omega) (by omega)).mpr (by omega)⟩ (i32_cl (by omega)) (by simp [vC]) ga rfl (fun h190 W191 A192 => ?_)
      rw [nar_char r0 r1] at A192
      refine Wlk.iinc (pc' := 38) (v := (1 : Int32)) (x := (Int32.ofNat pre.length)) (Ls' := #[.val (.ref t), .val (.int (0 : Int32)), .val (.int (Int32.ofNat cs.length)), .val (.ref a), .val (.int ((Int32.ofNat pre.length) + (1 : Int32))), .val (.int ((Int32.ofNat pre.length) + (1 : Int32)))]) dc_jdk_52_method_26_code_35 (by decide) rfl rfl rfl rfl ?_
      refine Wlk.goto (pc' := 16) dc_jdk_52_method_26_code_38 (by decide) (by decide) ?_
      have e1 : Int32.ofNat pre.length + 1 = Int32.ofNat (pre ++ [c]).length := by rw [i32_succ]; simp
      rw [e1]
      exact ih (pre ++ [c]) _ (by rw [hcs]; simp) (K.wr W191 (Or.inl (List.mem_of_getElem? (i := 0) rfl))) (set_vC pre c ▸ A192)
  exact loop cs [] h0 rfl (Keep.refl _ _) A1

set_option maxRecDepth 65536 in
set_option maxHeartbeats 40000000 in
theorem st_infl {l : Launch} {Z : State} {a0 : Array Value} (hw : ∀ d ∈ tables_1, d.before a0 Z = true) (t a : Addr) (kb ka : ClassId) (cs : List Int32) (d : Value) (h0 : Heap) (T1 : Arv Z h0 t kb .byte (Int32.ofNat cs.length) (vL cs) d) (A1 : Arv Z h0 a ka .char (Int32.ofNat cs.length) [] (.int 0)) (hab : t ≠ a) (ga : Z.heap.size ≤ a) (hn : cs.length ≤ 4000) (hR : ∀ c ∈ cs, ¬ c < 0 ∧ ¬ (255 : Int32) < c) :
    Met l Z (⟨"java/lang/StringLatin1", "inflate", "([BI[CII)V"⟩ : MethodName) jdk_43_method_49_code 6 none false [] ({ frames := 0, cells := 0, slots := 0, locals := 0 } : Room) #[(.ref t), (.int (0 : Int32)), (.ref a), (.int (0 : Int32)), (.int (Int32.ofNat cs.length))] h0 (false, [], []) (fun v h J => v = none ∧ Keep h0 h [a] ∧ Arv Z h a ka .char (Int32.ofNat cs.length) (vC cs) (.int 0)) := by
  refine Met.of_goes (Ls := #[.val (.ref t), .val (.int (0 : Int32)), .val (.ref a), .val (.int (0 : Int32)), .val (.int (Int32.ofNat cs.length)), .unset]) (by first | exact plainFor_of_name (by first | (simp [plainName, overriddenIn]; done) | decide +kernel) | decide +kernel) (fun m => by first | (simp [entryFrame, mkF, argsToLocals, Value.category]; done) | rfl) rfl (fun G hGl => ?_)
  subst hGl
  refine Wlk.iconst (pc' := 1) (v := (0 : Int32)) dc_jdk_43_method_49_code_0 rfl rfl ?_
  refine Wlk.istore (pc' := 3) (Ls' := #[.val (.ref t), .val (.int (0 : Int32)), .val (.ref a), .val (.int (0 : Int32)), .val (.int (Int32.ofNat cs.length)), .val (.int (0 : Int32))]) dc_jdk_43_method_49_code_1 rfl rfl rfl ?_
  have loop : ∀ (rest pre : List Int32) (h : Heap), cs = pre ++ rest → Keep h0 h [a] → Arv Z h a ka .char (Int32.ofNat cs.length) (vC pre) (.int 0) → Wlk G ({ frames := 0, cells := 0, slots := 0, locals := 0 } : Room) Z (⟨"java/lang/StringLatin1", "inflate", "([BI[CII)V"⟩ : MethodName) jdk_43_method_49_code none false (false, [], []) (fun v h J => v = none ∧ Keep h0 h [a] ∧ Arv Z h a ka .char (Int32.ofNat cs.length) (vC cs) (.int 0)) h 0 0 3 #[.val (.ref t), .val (.int (Int32.ofNat pre.length)), .val (.ref a), .val (.int (Int32.ofNat pre.length)), .val (.int (Int32.ofNat cs.length)), .val (.int (Int32.ofNat pre.length))] [] := by
    intro rest
    induction rest with
    | nil =>
      intro pre h hcs K B
      rw [List.append_nil] at hcs
      subst hcs
      refine Wlk.iload (pc' := 5) (v := (Int32.ofNat cs.length)) dc_jdk_43_method_49_code_3 rfl rfl ?_
      refine Wlk.iload (pc' := 7) (v := (Int32.ofNat cs.length)) dc_jdk_43_method_49_code_5 rfl rfl ?_
      refine Wlk.icT (pc' := 33) dc_jdk_43_method_49_code_7 (by decide) (by decide) (show ¬ ((Int32.ofNat cs.length) < (Int32.ofNat cs.length)) from (fun q => absurd ((i32_lt (by omega) (by omega)).mp q) (Nat.lt_irrefl _))) ?_
      refine Wlk.return_ dc_jdk_43_method_49_code_33 rfl (by decide) (by decide) ?_
      exact ⟨rfl, K, B⟩
    | cons c rest ih =>
      intro pre h hcs K B
      have hl : cs.length = pre.length + (rest.length + 1) := by rw [hcs]; simp
      have T := T1.keep K (ninS hab nin0)
      have B2 := B.pad (pad_rep _ _ 1)
      have hcr := hR c (by rw [hcs]; simp)
      refine Wlk.iload (pc' := 5) (v := (Int32.ofNat pre.length)) dc_jdk_43_method_49_code_3 rfl rfl ?_
      refine Wlk.iload (pc' := 7) (v := (Int32.ofNat cs.length)) dc_jdk_43_method_49_code_5 rfl rfl ?_
      refine Wlk.icF (pc' := 10) dc_jdk_43_method_49_code_7 (show (Int32.ofNat pre.length) < (Int32.ofNat cs.length) from ((i32_lt (by omega) (by omega)).mpr (by omega))) rfl ?_
      refine Wlk.aloadN (pc' := 11) (v := (.ref a)) dc_jdk_43_method_49_code_10 rfl rfl rfl ?_
      refine Wlk.iloadN (pc' := 12) (v := (Int32.ofNat pre.length)) dc_jdk_43_method_49_code_11 rfl rfl ?_
      refine Wlk.iinc (pc' := 15) (v := (1 : Int32)) (x := (Int32.ofNat pre.length)) (Ls' := #[.val (.ref t), .val (.int (Int32.ofNat pre.length)), .val (.ref a), .val (.int ((Int32.ofNat pre.length) + (1 : Int32))), .val (.int (Int32.ofNat cs.length)), .val (.int (Int32.ofNat pre.length))]) dc_jdk_43_method_49_code_12 (by decide) rfl rfl rfl rfl ?_
      refine Wlk.aloadN (pc' := 16) (v := (.ref t)) dc_jdk_43_method_49_code_15 rfl rfl rfl ?_
      refine Wlk.iloadN (pc' := 17) (v := (Int32.ofNat pre.length)) dc_jdk_43_method_49_code_16 rfl rfl ?_
      refine Wlk.iinc (pc' := 20) (v := (1 : Int32)) (x := (Int32.ofNat pre.length)) (Ls' := #[.val (.ref t), .val (.int ((Int32.ofNat pre.length) + (1 : Int32))), .val (.ref a), .val (.int ((Int32.ofNat pre.length) + (1 : Int32))), .val (.int (Int32.ofNat cs.length)), .val (.int (Int32.ofNat pre.length))]) dc_jdk_43_method_49_code_17 (by decide) rfl rfl rfl rfl ?_
      refine Wlk.baload (pc' := 21) (v := (.int (bL c))) dc_jdk_43_method_49_code_20 T ⟨i32_nn (by omega), (i32_lt (by omega) (by omega)).mpr (by omega)⟩ (by rw [i32_cl (by omega), hcs]; simp [vL]) rfl ?_
      refine Wlk.sipush (pc' := 24) (v := (255 : Int32)) dc_jdk_43_method_49_code_21 (by decide) rfl ?_
      refine Wlk.iand (pc' := 25) dc_jdk_43_method_49_code_24 rfl ?_
      refine Wlk.i2c (pc' := 26) dc_jdk_43_method_49_code_25 rfl ?_
      refine Wlk.castore (pc' := 27) (i := pre.length) dc_jdk_43_method_49_code_26 B2 ⟨i32_nn (by omega), (i32_lt (by omega) (by omega)).mpr (by omega)⟩ (i32_cl (by omega)) (by simp [vC]) ga rfl (fun h193 W194 A195 => ?_)
      rw [l_get hcr.1 hcr.2] at A195
      refine Wlk.iinc (pc' := 30) (v := (1 : Int32)) (x := (Int32.ofNat pre.length)) (Ls' := #[.val (.ref t), .val (.int ((Int32.ofNat pre.length) + (1 : Int32))), .val (.ref a), .val (.int ((Int32.ofNat pre.length) + (1 : Int32))), .val (.int (Int32.ofNat cs.length)), .val (.int ((Int32.ofNat pre.length) + (1 : Int32)))]) dc_jdk_43_method_49_code_27 (by decide) rfl rfl rfl rfl ?_
      refine Wlk.goto (pc' := 3) dc_jdk_43_method_49_code_30 (by decide) (by decide) ?_
      have e1 : Int32.ofNat pre.length + 1 = Int32.ofNat (pre ++ [c]).length := by rw [i32_succ]; simp
      rw [e1]
      exact ih (pre ++ [c]) _ (by rw [hcs]; simp) (K.wr W194 (Or.inl (List.mem_of_getElem? (i := 0) rfl))) (set_vC pre c ▸ A195)
  exact loop cs [] h0 rfl (Keep.refl _ _) A1

set_option maxRecDepth 65536 in
set_option maxHeartbeats 40000000 in
theorem st_ltc {l : Launch} {Z : State} {a0 : Array Value} (hw : ∀ d ∈ tables_1, d.before a0 Z = true) (t : Addr) (kb : ClassId) (cs : List Int32) (d : Value) (h0 : Heap) (q0_A : Arv Z h0 t kb .byte (Int32.ofNat cs.length) (vL cs) d) (hn : cs.length ≤ 4) (hL : ∀ c ∈ cs, ¬ c < 0 ∧ ¬ (255 : Int32) < c) :
    Met l Z (⟨"java/lang/StringLatin1", "toChars", "([B)[C"⟩ : MethodName) jdk_43_method_9_code 2 (some (.array .char)) false [] ({ frames := 1, cells := 1, slots := 4, locals := 17 } : Room) #[(.ref t)] h0 (false, [], []) (fun v h J' => ∃ (a : Addr) (ka : ClassId), v = some (.ref a) ∧ h0.size ≤ a ∧ Z.heap.size ≤ a ∧ Keep h0 h [] ∧ Arv Z h a ka .char (Int32.ofNat cs.length) (vC cs) (.int 0)) := by
  refine Met.of_goes (Ls := #[.val (.ref t), .unset]) (by first | exact plainFor_of_name (by first | (simp [plainName, overriddenIn]; done) | decide +kernel) | decide +kernel) (fun m => by first | (simp [entryFrame, mkF, argsToLocals, Value.category]; done) | rfl) rfl (fun G hGl => ?_)
  subst hGl
  refine Wlk.aloadN (pc' := 1) (v := (.ref t)) dc_jdk_43_method_9_code_0 rfl rfl rfl ?_
  refine Wlk.arraylength (pc' := 2) dc_jdk_43_method_9_code_1 q0_A rfl ?_
  refine Wlk.newP (pc' := 4) (ty := .char) (cap := 4) dc_jdk_43_method_9_code_2 rfl (hw _ (List.mem_of_getElem? (i := 1) rfl)) (i32_nn (by omega)) (by rw [i32_cl (by omega)]; omega) (by decide) (by decide) (by decide) rfl (fun b196 h197 kc198 le199 g200 E201 A202 => ?_)
  refine Wlk.astoreN (pc' := 5) (Ls' := #[.val (.ref t), .val (.ref b196)]) dc_jdk_43_method_9_code_4 rfl rfl rfl rfl ?_
  refine Wlk.aloadN (pc' := 6) (v := (.ref t)) dc_jdk_43_method_9_code_5 rfl rfl rfl ?_
  refine Wlk.iconst (pc' := 7) (v := (0 : Int32)) dc_jdk_43_method_9_code_6 rfl rfl ?_
  refine Wlk.aloadN (pc' := 8) (v := (.ref b196)) dc_jdk_43_method_9_code_7 rfl rfl rfl ?_
  refine Wlk.iconst (pc' := 9) (v := (0 : Int32)) dc_jdk_43_method_9_code_8 rfl rfl ?_
  refine Wlk.aloadN (pc' := 10) (v := (.ref t)) dc_jdk_43_method_9_code_9 rfl rfl rfl ?_
  have c203 := (q0_A.ext E201)
  refine Wlk.arraylength (pc' := 11) dc_jdk_43_method_9_code_10 c203 rfl ?_
  refine Wlk.callS (pc' := 14) (z := (⟨"java/lang/StringLatin1", "inflate", "([BI[CII)V"⟩ : MethodName)) (argsL := [(.ref t), (.int (0 : Int32)), (.ref b196), (.int (0 : Int32)), (.int (Int32.ofNat cs.length))]) (st := []) (W := 0) dc_jdk_43_method_9_code_11 (hw _ (List.mem_of_getElem? (i := 50) rfl)) (hw _ (List.mem_of_getElem? (i := 51) rfl)) (hw _ (List.mem_of_getElem? (i := 48) rfl)) (hw _ (List.mem_of_getElem? (i := 52) rfl)) (by decide) pd_16 rfl (st_infl hw t b196 kb kc198 cs d h197 c203 A202 (Nat.ne_of_lt (Nat.lt_of_lt_of_le q0_A.lt (Nat.le_trans (Nat.le_refl _) le199))) g200 (by omega) hL) (by decide) rfl (by decide) (by decide) (by decide) rfl rfl (fun v204 h205 J206 q207 => ?_)
  obtain ⟨rfl, K208, A209⟩ := q207
  show Wlk _ _ _ _ _ _ _ _ _ h205 1 4 14 #[.val (.ref t), .val (.ref b196)] []
  refine Wlk.aloadN (pc' := 15) (v := (.ref b196)) dc_jdk_43_method_9_code_14 rfl rfl rfl ?_
  refine Wlk.areturn (t := (.array .char)) dc_jdk_43_method_9_code_15 rfl rfl rfl rfl (by decide) (by decide) ?_
  exact ⟨b196, kc198, rfl, (Nat.le_trans (Nat.le_refl _) le199), g200, (((Keep.refl h0 []).ext E201).trans K208 (allS (Or.inr (Nat.le_trans (Nat.le_refl _) le199)) all0)), A209⟩

set_option maxRecDepth 65536 in
set_option maxHeartbeats 40000000 in
theorem st_utc {l : Launch} {Z : State} {a0 : Array Value} (hw : ∀ d ∈ tables_1, d.before a0 Z = true) (t : Addr) (kb : ClassId) (cs : List Int32) (sf : Value) (h0 : Heap) (q0_Sta : Sta Z Z.heap "java/lang/StringUTF16" "$assertionsDisabled" "Z" (.int (1 : Int32))) (q1_Sta : Sta Z Z.heap "java/lang/StringUTF16" "HI_BYTE_SHIFT" "I" (.int (0 : Int32))) (q2_Sta : Sta Z Z.heap "java/lang/StringUTF16" "LO_BYTE_SHIFT" "I" (.int (8 : Int32))) (q3_Sta : Sta Z Z.heap "jdk/internal/util/Preconditions" "SIOOBE_FORMATTER" "Ljava/util/function/BiFunction;" sf) (hsf : sf.isRef = true) (q5_A : Arv Z h0 t kb .byte (Int32.ofNat (2 * cs.length)) (vU cs) (.int 0)) (hn : cs.length ≤ 4) (hp : 0 < cs.length) (hR : ∀ c ∈ cs, ¬ c < 0 ∧ ¬ (65535 : Int32) < c) :
    Met l Z (⟨"java/lang/StringUTF16", "toChars", "([B)[C"⟩ : MethodName) jdk_52_method_13_code 2 (some (.array .char)) false [] ({ frames := 4, cells := 1, slots := 4, locals := 60 } : Room) #[(.ref t)] h0 (false, [], []) (fun v h J' => ∃ (a : Addr) (ka : ClassId), v = some (.ref a) ∧ h0.size ≤ a ∧ Z.heap.size ≤ a ∧ Keep h0 h [] ∧ Arv Z h a ka .char (Int32.ofNat cs.length) (vC cs) (.int 0)) := by
  refine Met.of_goes (Ls := #[.val (.ref t), .unset]) (by first | exact plainFor_of_name (by first | (simp [plainName, overriddenIn]; done) | decide +kernel) | decide +kernel) (fun m => by first | (simp [entryFrame, mkF, argsToLocals, Value.category]; done) | rfl) rfl (fun G hGl => ?_)
  subst hGl
  refine Wlk.aloadN (pc' := 1) (v := (.ref t)) dc_jdk_52_method_13_code_0 rfl rfl rfl ?_
  refine Wlk.arraylength (pc' := 2) dc_jdk_52_method_13_code_1 q5_A rfl ?_
  refine Wlk.iconst (pc' := 3) (v := (1 : Int32)) dc_jdk_52_method_13_code_2 rfl rfl ?_
  refine Wlk.ishr (pc' := 4) dc_jdk_52_method_13_code_3 rfl ?_
  rw [i32_shr1 _ (by omega)]
  refine Wlk.newP (pc' := 6) (ty := .char) (cap := 4) dc_jdk_52_method_13_code_4 rfl (hw _ (List.mem_of_getElem? (i := 1) rfl)) (i32_nn (by omega)) (by rw [i32_cl (by omega)]; omega) (by decide) (by decide) (by decide) rfl (fun b210 h211 kc212 le213 g214 E215 A216 => ?_)
  refine Wlk.astoreN (pc' := 7) (Ls' := #[.val (.ref t), .val (.ref b210)]) dc_jdk_52_method_13_code_6 rfl rfl rfl rfl ?_
  refine Wlk.aloadN (pc' := 8) (v := (.ref t)) dc_jdk_52_method_13_code_7 rfl rfl rfl ?_
  refine Wlk.iconst (pc' := 9) (v := (0 : Int32)) dc_jdk_52_method_13_code_8 rfl rfl ?_
  refine Wlk.aloadN (pc' := 10) (v := (.ref b210)) dc_jdk_52_method_13_code_9 rfl rfl rfl ?_
  refine Wlk.arraylength (pc' := 11) dc_jdk_52_method_13_code_10 A216 rfl ?_
  refine Wlk.aloadN (pc' := 12) (v := (.ref b210)) dc_jdk_52_method_13_code_11 rfl rfl rfl ?_
  refine Wlk.iconst (pc' := 13) (v := (0 : Int32)) dc_jdk_52_method_13_code_12 rfl rfl ?_
  have c217 := (q5_A.ext E215)
  refine Wlk.callS (pc' := 16) (z := (⟨"java/lang/StringUTF16", "getChars", "([BII[CI)V"⟩ : MethodName)) (argsL := [(.ref t), (.int (0 : Int32)), (.int (Int32.ofNat cs.length)), (.ref b210), (.int (0 : Int32))]) (st := []) (W := 0) dc_jdk_52_method_13_code_13 (hw _ (List.mem_of_getElem? (i := 110) rfl)) (hw _ (List.mem_of_getElem? (i := 111) rfl)) (hw _ (List.mem_of_getElem? (i := 19) rfl)) (hw _ (List.mem_of_getElem? (i := 112) rfl)) (by decide) pd_17 rfl (st_gch hw t b210 kb kc212 cs sf h211 q0_Sta q1_Sta q2_Sta q3_Sta hsf c217 A216 (Nat.ne_of_lt (Nat.lt_of_lt_of_le q5_A.lt (Nat.le_trans (Nat.le_refl _) le213))) g214 (by omega) hp hR) (by decide) rfl (by decide) (by decide) (by decide) rfl rfl (fun v218 h219 J220 q221 => ?_)
  obtain ⟨rfl, K222, A223⟩ := q221
  show Wlk _ _ _ _ _ _ _ _ _ h219 1 4 16 #[.val (.ref t), .val (.ref b210)] []
  refine Wlk.aloadN (pc' := 17) (v := (.ref b210)) dc_jdk_52_method_13_code_16 rfl rfl rfl ?_
  refine Wlk.areturn (t := (.array .char)) dc_jdk_52_method_13_code_17 rfl rfl rfl rfl (by decide) (by decide) ?_
  exact ⟨b210, kc212, rfl, (Nat.le_trans (Nat.le_refl _) le213), g214, (((Keep.refl h0 []).ext E215).trans K222 (allS (Or.inr (Nat.le_trans (Nat.le_refl _) le213)) all0)), A223⟩

set_option maxRecDepth 65536 in
set_option maxHeartbeats 40000000 in
theorem st_tca {l : Launch} {Z : State} {a0 : Array Value} (hw : ∀ d ∈ tables_1, d.before a0 Z = true) (s : Addr) (t : Addr) (cs : List Int32) (sf : Value) (zc : Int32) (h0 : Heap) (q0_Sta : Sta Z Z.heap "java/lang/StringUTF16" "$assertionsDisabled" "Z" (.int (1 : Int32))) (q1_Sta : Sta Z Z.heap "java/lang/StringUTF16" "HI_BYTE_SHIFT" "I" (.int (0 : Int32))) (q2_Sta : Sta Z Z.heap "java/lang/StringUTF16" "LO_BYTE_SHIFT" "I" (.int (8 : Int32))) (q3_Sta : Sta Z Z.heap "jdk/internal/util/Preconditions" "SIOOBE_FORMATTER" "Ljava/util/function/BiFunction;" sf) (hsf : sf.isRef = true) (q5_Sta : Sta Z Z.heap "java/lang/String" "COMPACT_STRINGS" "Z" (.int zc)) (P3 : ¬ zc = 0) (q7_SA : StrA Z h0 s t cs) (hn : cs.length ≤ 4) (hR : ∀ c ∈ cs, ¬ c < 0 ∧ ¬ (65535 : Int32) < c) :
    Met l Z (⟨"java/lang/String", "toCharArray", "()[C"⟩ : MethodName) jdk_42_method_129_code 1 (some (.array .char)) false [] ({ frames := 5, cells := 1, slots := 4, locals := 73 } : Room) #[(.ref s)] h0 (false, [], []) (fun v h J' => ∃ (a : Addr) (ka : ClassId), v = some (.ref a) ∧ h0.size ≤ a ∧ Z.heap.size ≤ a ∧ Keep h0 h [] ∧ Arv Z h a ka .char (Int32.ofNat cs.length) (vC cs) (.int 0)) := by
  refine Met.of_goes (Ls := #[.val (.ref s)]) (by first | exact plainFor_of_name (by first | (simp [plainName, overriddenIn]; done) | decide +kernel) | decide +kernel) (fun m => by first | (simp [entryFrame, mkF, argsToLocals, Value.category]; done) | rfl) rfl (fun G hGl => ?_)
  subst hGl
  rcases q7_SA with ⟨hlat, S⟩ | ⟨hlat, S⟩
  · skip
    obtain ⟨Es, Vs, Cs, ks, As⟩ := S
    refine Wlk.aloadN (pc' := 1) (v := (.ref s)) dc_jdk_42_method_129_code_0 rfl rfl rfl ?_
    refine Wlk.callV (pc' := 4) (a := s) (x := (⟨"java/lang/String", "isLatin1", "()Z"⟩ : MethodName)) (C := "java/lang/String") (z := (⟨"java/lang/String", "isLatin1", "()Z"⟩ : MethodName)) (argsL := []) (st := []) (W := 0) dc_jdk_42_method_129_code_1 (hw _ (List.mem_of_getElem? (i := 41) rfl)) (hw _ (List.mem_of_getElem? (i := 42) rfl)) (fun s q => notFace_of_selects (args := #[]) (mvT q (hw _ (List.mem_of_getElem? (i := 44) rfl)))) (hw _ (List.mem_of_getElem? (i := 44) rfl)) (hw _ (List.mem_of_getElem? (i := 43) rfl)) Es (hw _ (List.mem_of_getElem? (i := 5) rfl)) (hw _ (List.mem_of_getElem? (i := 45) rfl)) (by decide) pd_12 rfl (st_isl0 hw s zc h0 q5_Sta P3 Cs) (by decide) rfl (by decide) (by decide) (by decide) rfl rfl (fun v224 h225 J226 q227 => ?_)
    obtain ⟨rfl, rfl⟩ := q227
    show Wlk _ _ _ _ _ _ _ _ _ h0 0 0 4 #[.val (.ref s)] [(.int (1 : Int32))]
    refine Wlk.ifF (pc' := 7) dc_jdk_42_method_129_code_4 (show ¬ ((1 : Int32) = (0 : Int32)) from by decide) rfl ?_
    refine Wlk.aloadN (pc' := 8) (v := (.ref s)) dc_jdk_42_method_129_code_7 rfl rfl rfl ?_
    refine Wlk.getF (pc' := 11) (v := (.ref t)) dc_jdk_42_method_129_code_8 (hw _ (List.mem_of_getElem? (i := 30) rfl)) Via.refl Vs rfl ?_
    refine Wlk.callS (pc' := 14) (z := (⟨"java/lang/StringLatin1", "toChars", "([B)[C"⟩ : MethodName)) (argsL := [(.ref t)]) (st := []) (W := 0) dc_jdk_42_method_129_code_11 (hw _ (List.mem_of_getElem? (i := 46) rfl)) (hw _ (List.mem_of_getElem? (i := 47) rfl)) (hw _ (List.mem_of_getElem? (i := 48) rfl)) (hw _ (List.mem_of_getElem? (i := 49) rfl)) (by decide) pd_18 rfl (st_ltc hw t ks cs (.int 0) h0 As (by first | exact hn | omega | exact Nat.le_of_ble_eq_true rfl) (fun c hc => ⟨(hR c hc).1, lat_mem hlat c hc⟩)) (by decide) rfl (by decide) (by decide) (by decide) rfl rfl (fun v228 h229 J230 q231 => ?_)
    obtain ⟨a232, ka233, rfl, le234, g235, K236, n237⟩ := q231
    show Wlk _ _ _ _ _ _ _ _ _ h229 1 4 14 #[.val (.ref s)] [(.ref a232)]
    refine Wlk.goto (pc' := 24) dc_jdk_42_method_129_code_14 (by decide) (by decide) ?_
    refine Wlk.areturn (t := (.array .char)) dc_jdk_42_method_129_code_24 rfl rfl rfl rfl (by decide) (by decide) ?_
    exact ⟨a232, ka233, rfl, (Nat.le_trans (Nat.le_refl _) le234), g235, ((Keep.refl h0 []).trans K236 all0), n237⟩
  · skip
    obtain ⟨Es, Vs, Cs, ks, As⟩ := S
    refine Wlk.aloadN (pc' := 1) (v := (.ref s)) dc_jdk_42_method_129_code_0 rfl rfl rfl ?_
    refine Wlk.callV (pc' := 4) (a := s) (x := (⟨"java/lang/String", "isLatin1", "()Z"⟩ : MethodName)) (C := "java/lang/String") (z := (⟨"java/lang/String", "isLatin1", "()Z"⟩ : MethodName)) (argsL := []) (st := []) (W := 0) dc_jdk_42_method_129_code_1 (hw _ (List.mem_of_getElem? (i := 41) rfl)) (hw _ (List.mem_of_getElem? (i := 42) rfl)) (fun s q => notFace_of_selects (args := #[]) (mvT q (hw _ (List.mem_of_getElem? (i := 44) rfl)))) (hw _ (List.mem_of_getElem? (i := 44) rfl)) (hw _ (List.mem_of_getElem? (i := 43) rfl)) Es (hw _ (List.mem_of_getElem? (i := 5) rfl)) (hw _ (List.mem_of_getElem? (i := 45) rfl)) (by decide) pd_12 rfl (st_isl1 hw s zc h0 q5_Sta P3 Cs) (by decide) rfl (by decide) (by decide) (by decide) rfl rfl (fun v238 h239 J240 q241 => ?_)
    obtain ⟨rfl, rfl⟩ := q241
    show Wlk _ _ _ _ _ _ _ _ _ h0 0 0 4 #[.val (.ref s)] [(.int (0 : Int32))]
    refine Wlk.ifT (pc' := 17) dc_jdk_42_method_129_code_4 (by decide) (by decide) (show (0 : Int32) = (0 : Int32) from by decide) ?_
    refine Wlk.aloadN (pc' := 18) (v := (.ref s)) dc_jdk_42_method_129_code_17 rfl rfl rfl ?_
    refine Wlk.getF (pc' := 21) (v := (.ref t)) dc_jdk_42_method_129_code_18 (hw _ (List.mem_of_getElem? (i := 30) rfl)) Via.refl Vs rfl ?_
    refine Wlk.callS (pc' := 24) (z := (⟨"java/lang/StringUTF16", "toChars", "([B)[C"⟩ : MethodName)) (argsL := [(.ref t)]) (st := []) (W := 0) dc_jdk_42_method_129_code_21 (hw _ (List.mem_of_getElem? (i := 107) rfl)) (hw _ (List.mem_of_getElem? (i := 108) rfl)) (hw _ (List.mem_of_getElem? (i := 19) rfl)) (hw _ (List.mem_of_getElem? (i := 109) rfl)) (by decide) pd_18 rfl (st_utc hw t ks cs sf h0 q0_Sta q1_Sta q2_Sta q3_Sta hsf As (by first | exact hn | omega | exact Nat.le_of_ble_eq_true rfl) (by cases cs with | nil => exact absurd rfl hlat | cons c l => simp) hR) (by decide) rfl (by decide) (by decide) (by decide) rfl rfl (fun v242 h243 J244 q245 => ?_)
    obtain ⟨a246, ka247, rfl, le248, g249, K250, n251⟩ := q245
    show Wlk _ _ _ _ _ _ _ _ _ h243 1 4 24 #[.val (.ref s)] [(.ref a246)]
    refine Wlk.areturn (t := (.array .char)) dc_jdk_42_method_129_code_24 rfl rfl rfl rfl (by decide) (by decide) ?_
    exact ⟨a246, ka247, rfl, (Nat.le_trans (Nat.le_refl _) le248), g249, ((Keep.refl h0 []).trans K250 all0), n251⟩

set_option maxRecDepth 65536 in
set_option maxHeartbeats 40000000 in
theorem st_coder0 {l : Launch} {Z : State} {a0 : Array Value} (hw : ∀ d ∈ tables_1, d.before a0 Z = true) (s : Addr) (zc : Int32) (h0 : Heap) (q0_Sta : Sta Z Z.heap "java/lang/String" "COMPACT_STRINGS" "Z" (.int zc)) (P3 : ¬ zc = 0) (q2_F : Fld Z h0 s "java/lang/String" "coder" "B" (.int (0 : Int32))) :
    Met l Z (⟨"java/lang/String", "coder", "()B"⟩ : MethodName) jdk_42_method_152_code 1 (some .byte) false [] ({ frames := 0, cells := 0, slots := 0, locals := 0 } : Room) #[(.ref s)] h0 (false, [], []) (fun v h J' => v = some (.int (0 : Int32)) ∧ h0 = h) := by
  refine Met.of_goes (Ls := #[.val (.ref s)]) (by first | exact plainFor_of_name (by first | (simp [plainName, overriddenIn]; done) | decide +kernel) | decide +kernel) (fun m => by first | (simp [entryFrame, mkF, argsToLocals, Value.category]; done) | rfl) rfl (fun G hGl => ?_)
  subst hGl
  refine Wlk.getS (pc' := 3) (v := (.int zc)) dc_jdk_42_method_152_code_0 (hw _ (List.mem_of_getElem? (i := 16) rfl)) Via.refl q0_Sta rfl ?_
  refine Wlk.ifF (pc' := 6) dc_jdk_42_method_152_code_3 (show ¬ (zc = (0 : Int32)) from P3) rfl ?_
  refine Wlk.aloadN (pc' := 7) (v := (.ref s)) dc_jdk_42_method_152_code_6 rfl rfl rfl ?_
  refine Wlk.getF (pc' := 10) (v := (.int (0 : Int32))) dc_jdk_42_method_152_code_7 (hw _ (List.mem_of_getElem? (i := 28) rfl)) Via.refl q2_F rfl ?_
  refine Wlk.goto (pc' := 14) dc_jdk_42_method_152_code_10 (by decide) (by decide) ?_
  refine Wlk.ireturnN (t := .byte) dc_jdk_42_method_152_code_14 rfl (by simp) (by decide) (by decide) ?_
  exact ⟨rfl, rfl⟩

set_option maxRecDepth 65536 in
set_option maxHeartbeats 40000000 in
theorem st_coder1 {l : Launch} {Z : State} {a0 : Array Value} (hw : ∀ d ∈ tables_1, d.before a0 Z = true) (s : Addr) (zc : Int32) (h0 : Heap) (q0_Sta : Sta Z Z.heap "java/lang/String" "COMPACT_STRINGS" "Z" (.int zc)) (P3 : ¬ zc = 0) (q2_F : Fld Z h0 s "java/lang/String" "coder" "B" (.int (1 : Int32))) :
    Met l Z (⟨"java/lang/String", "coder", "()B"⟩ : MethodName) jdk_42_method_152_code 1 (some .byte) false [] ({ frames := 0, cells := 0, slots := 0, locals := 0 } : Room) #[(.ref s)] h0 (false, [], []) (fun v h J' => v = some (.int (1 : Int32)) ∧ h0 = h) := by
  refine Met.of_goes (Ls := #[.val (.ref s)]) (by first | exact plainFor_of_name (by first | (simp [plainName, overriddenIn]; done) | decide +kernel) | decide +kernel) (fun m => by first | (simp [entryFrame, mkF, argsToLocals, Value.category]; done) | rfl) rfl (fun G hGl => ?_)
  subst hGl
  refine Wlk.getS (pc' := 3) (v := (.int zc)) dc_jdk_42_method_152_code_0 (hw _ (List.mem_of_getElem? (i := 16) rfl)) Via.refl q0_Sta rfl ?_
  refine Wlk.ifF (pc' := 6) dc_jdk_42_method_152_code_3 (show ¬ (zc = (0 : Int32)) from P3) rfl ?_
  refine Wlk.aloadN (pc' := 7) (v := (.ref s)) dc_jdk_42_method_152_code_6 rfl rfl rfl ?_
  refine Wlk.getF (pc' := 10) (v := (.int (1 : Int32))) dc_jdk_42_method_152_code_7 (hw _ (List.mem_of_getElem? (i := 28) rfl)) Via.refl q2_F rfl ?_
  refine Wlk.goto (pc' := 14) dc_jdk_42_method_152_code_10 (by decide) (by decide) ?_
  refine Wlk.ireturnN (t := .byte) dc_jdk_42_method_152_code_14 rfl (by simp) (by decide) (by decide) ?_
  exact ⟨rfl, rfl⟩

set_option maxRecDepth 65536 in
set_option maxHeartbeats 40000000 in
theorem st_len {l : Launch} {Z : State} {a0 : Array Value} (hw : ∀ d ∈ tables_1, d.before a0 Z = true) (s : Addr) (t : Addr) (cs : List Int32) (zc : Int32) (h0 : Heap) (q0_Sta : Sta Z Z.heap "java/lang/String" "COMPACT_STRINGS" "Z" (.int zc)) (P3 : ¬ zc = 0) (q2_SA : StrA Z h0 s t cs) (hn : cs.length ≤ 4000) :
    Met l Z (⟨"java/lang/String", "length", "()I"⟩ : MethodName) jdk_42_method_54_code 1 (some .int) false [] ({ frames := 1, cells := 0, slots := 0, locals := 13 } : Room) #[(.ref s)] h0 (false, [], []) (fun v h J' => v = some (.int (Int32.ofNat cs.length)) ∧ h0 = h) := by
  refine Met.of_goes (Ls := #[.val (.ref s)]) (by first | exact plainFor_of_name (by first | (simp [plainName, overriddenIn]; done) | decide +kernel) | decide +kernel) (fun m => by first | (simp [entryFrame, mkF, argsToLocals, Value.category]; done) | rfl) rfl (fun G hGl => ?_)
  subst hGl
  rcases q2_SA with ⟨hlat, S⟩ | ⟨hlat, S⟩
  · skip
    obtain ⟨Es, Vs, Cs, ks, As⟩ := S
    refine Wlk.aloadN (pc' := 1) (v := (.ref s)) dc_jdk_42_method_54_code_0 rfl rfl rfl ?_
    refine Wlk.getF (pc' := 4) (v := (.ref t)) dc_jdk_42_method_54_code_1 (hw _ (List.mem_of_getElem? (i := 30) rfl)) Via.refl Vs rfl ?_
    refine Wlk.arraylength (pc' := 5) dc_jdk_42_method_54_code_4 As rfl ?_
    refine Wlk.aloadN (pc' := 6) (v := (.ref s)) dc_jdk_42_method_54_code_5 rfl rfl rfl ?_
    refine Wlk.callV (pc' := 9) (a := s) (x := (⟨"java/lang/String", "coder", "()B"⟩ : MethodName)) (C := "java/lang/String") (z := (⟨"java/lang/String", "coder", "()B"⟩ : MethodName)) (argsL := []) (st := [(.int (Int32.ofNat cs.length))]) (W := 1) dc_jdk_42_method_54_code_6 (hw _ (List.mem_of_getElem? (i := 60) rfl)) (hw _ (List.mem_of_getElem? (i := 61) rfl)) (fun s q => notFace_of_selects (args := #[]) (mvT q (hw _ (List.mem_of_getElem? (i := 63) rfl)))) (hw _ (List.mem_of_getElem? (i := 63) rfl)) (hw _ (List.mem_of_getElem? (i := 62) rfl)) Es (hw _ (List.mem_of_getElem? (i := 5) rfl)) (hw _ (List.mem_of_getElem? (i := 64) rfl)) (by decide) pd_19 rfl (st_coder0 hw s zc h0 q0_Sta P3 Cs) (by decide) rfl (by decide) (by decide) (by decide) rfl rfl (fun v252 h253 J254 q255 => ?_)
    obtain ⟨rfl, rfl⟩ := q255
    show Wlk _ _ _ _ _ _ _ _ _ h0 0 0 9 #[.val (.ref s)] [(.int (0 : Int32)), (.int (Int32.ofNat cs.length))]
    refine Wlk.ishr (pc' := 10) dc_jdk_42_method_54_code_9 rfl ?_
    refine Wlk.ireturnI dc_jdk_42_method_54_code_10 rfl (by decide) (by decide) ?_
    exact ⟨(by rw [i32_shr0 _ (by omega)]), rfl⟩
  · skip
    obtain ⟨Es, Vs, Cs, ks, As⟩ := S
    refine Wlk.aloadN (pc' := 1) (v := (.ref s)) dc_jdk_42_method_54_code_0 rfl rfl rfl ?_
    refine Wlk.getF (pc' := 4) (v := (.ref t)) dc_jdk_42_method_54_code_1 (hw _ (List.mem_of_getElem? (i := 30) rfl)) Via.refl Vs rfl ?_
    refine Wlk.arraylength (pc' := 5) dc_jdk_42_method_54_code_4 As rfl ?_
    refine Wlk.aloadN (pc' := 6) (v := (.ref s)) dc_jdk_42_method_54_code_5 rfl rfl rfl ?_
    refine Wlk.callV (pc' := 9) (a := s) (x := (⟨"java/lang/String", "coder", "()B"⟩ : MethodName)) (C := "java/lang/String") (z := (⟨"java/lang/String", "coder", "()B"⟩ : MethodName)) (argsL := []) (st := [(.int (Int32.ofNat (2 * cs.length)))]) (W := 1) dc_jdk_42_method_54_code_6 (hw _ (List.mem_of_getElem? (i := 60) rfl)) (hw _ (List.mem_of_getElem? (i := 61) rfl)) (fun s q => notFace_of_selects (args := #[]) (mvT q (hw _ (List.mem_of_getElem? (i := 63) rfl)))) (hw _ (List.mem_of_getElem? (i := 63) rfl)) (hw _ (List.mem_of_getElem? (i := 62) rfl)) Es (hw _ (List.mem_of_getElem? (i := 5) rfl)) (hw _ (List.mem_of_getElem? (i := 64) rfl)) (by decide) pd_19 rfl (st_coder1 hw s zc h0 q0_Sta P3 Cs) (by decide) rfl (by decide) (by decide) (by decide) rfl rfl (fun v256 h257 J258 q259 => ?_)
    obtain ⟨rfl, rfl⟩ := q259
    show Wlk _ _ _ _ _ _ _ _ _ h0 0 0 9 #[.val (.ref s)] [(.int (1 : Int32)), (.int (Int32.ofNat (2 * cs.length)))]
    refine Wlk.ishr (pc' := 10) dc_jdk_42_method_54_code_9 rfl ?_
    refine Wlk.ireturnI dc_jdk_42_method_54_code_10 rfl (by decide) (by decide) ?_
    exact ⟨(by rw [i32_shr1 _ (by omega)]), rfl⟩

set_option maxRecDepth 65536 in
set_option maxHeartbeats 40000000 in
theorem st_emp4c {l : Launch} {Z : State} {a0 : Array Value} (hw : ∀ d ∈ tables_1, d.before a0 Z = true) (s : Addr) (a : Addr) (u2 : Value) (ka : ClassId) (vs : List Value) (d : Value) (Ts : List String) (Lt : List (String × Nat × Addr)) (h0 : Heap) (q0_E : Exa Z h0 s "java/lang/String") (q1_F : Fld Z h0 s "java/lang/String" "value" "[B" .null) (q2_F : Fld Z h0 s "java/lang/String" "coder" "B" u2) (q3_G : Z.heap.size ≤ s) (q4_A : Arv Z h0 a ka .char (0 : Int32) vs d) (wS : ∀ a ∈ Bundle.stringAtoms, a.before a0 Z = true) (hcw : Jvm.Lit.compactW.before a0 Z = true) (hh_7 : Jvm.Lit.constHeld Z "java/lang/String" 7) (hnT : "" ∉ Ts) :
    Met l Z (⟨"java/lang/String", "<init>", "([CIILjava/lang/Void;)V"⟩ : MethodName) jdk_42_method_149_code 6 none true [] ({ frames := 1, cells := 2, slots := 4, locals := 12 } : Room) #[(.ref s), (.ref a), (.int (0 : Int32)), (.int (0 : Int32)), .null] h0 (true, Ts, Lt) (fun v h J' => ∃ (c : Addr) (cb : Addr) (kb : ClassId), v = none ∧ Keep h0 h [s] ∧ Exa Z h c "java/lang/String" ∧ Fld Z h c "java/lang/String" "value" "[B" (.ref cb) ∧ Fld Z h c "java/lang/String" "coder" "B" (.int (0 : Int32)) ∧ Arv Z h cb kb .byte (0 : Int32) [] (.int 0) ∧ Exa Z h s "java/lang/String" ∧ Fld Z h s "java/lang/String" "value" "[B" (.ref cb) ∧ Fld Z h s "java/lang/String" "coder" "B" (.int (0 : Int32)) ∧ J' = (true, "" :: Ts, ("java/lang/String", 7, c) :: Lt)) := by
  refine Met.of_goes (Ls := #[.val (.ref s), .val (.ref a), .val (.int (0 : Int32)), .val (.int (0 : Int32)), .val .null, .unset]) (by first | exact plainFor_of_name (by first | (simp [plainName, overriddenIn]; done) | decide +kernel) | decide +kernel) (fun m => by first | (simp [entryFrame, mkF, argsToLocals, Value.category]; done) | rfl) rfl (fun G hGl => ?_)
  subst hGl
  refine Wlk.aloadN (pc' := 1) (v := (.ref s)) dc_jdk_42_method_149_code_0 rfl rfl rfl ?_
  refine Wlk.initO (pc' := 4) (W := 0) dc_jdk_42_method_149_code_1 (hw _ (List.mem_of_getElem? (i := 13) rfl)) (hw _ (List.mem_of_getElem? (i := 14) rfl)) (hw _ (List.mem_of_getElem? (i := 15) rfl)) (by decide) rfl (by decide) rfl ?_
  refine Wlk.iloadN (pc' := 5) (v := (0 : Int32)) dc_jdk_42_method_149_code_4 rfl rfl ?_
  refine Wlk.ifF (pc' := 8) dc_jdk_42_method_149_code_5 (show (0 : Int32) = (0 : Int32) from by decide) rfl ?_
  refine Wlk.aloadN (pc' := 9) (v := (.ref s)) dc_jdk_42_method_149_code_8 rfl rfl rfl ?_
  refine Wlk.ldcNew (pc' := 11) (text := "") (nn := 0) (vs := []) (z := (0 : Int32)) dc_jdk_42_method_149_code_9 (hw _ (List.mem_of_getElem? (i := 132) rfl)) wS hnT hh_7 hcw ⟨by decide, by decide⟩ (by decide) (by decide) (by decide) (by decide) (by decide) (by decide) rfl (fun ca260 cb261 kb262 h263 E264 A265 A266 A267 A268 => ?_)
  have c270 := (q1_F.ext E264)
  have ne269 : ca260 ≠ s := Fld.ne A267 c270 nofun
  refine Wlk.getF (pc' := 14) (v := (.ref cb261)) dc_jdk_42_method_149_code_11 (hw _ (List.mem_of_getElem? (i := 30) rfl)) Via.refl A267 rfl ?_
  have c271 := (q0_E.ext E264)
  refine Wlk.putF (pc' := 17) (ty := (.array .byte)) dc_jdk_42_method_149_code_14 (hw _ (List.mem_of_getElem? (i := 30) rfl)) Via.refl c270 c271 (Or.inr ⟨(hw _ (List.mem_of_getElem? (i := 31) rfl)), rfl, rfl⟩) (hw _ (List.mem_of_getElem? (i := 4) rfl)) (by decide) rfl rfl q3_G rfl (fun h273 W272 => ?_)
  have F274 := c270.same W272
  refine Wlk.aloadN (pc' := 18) (v := (.ref s)) dc_jdk_42_method_149_code_17 rfl rfl rfl ?_
  refine Wlk.ldcOld (pc' := 20) (text := "") (a := ca260) dc_jdk_42_method_149_code_18 (hw _ (List.mem_of_getElem? (i := 132) rfl)) (by simp) rfl ?_
  have c275 := (A266.other W272 (Or.inl ne269))
  refine Wlk.getF (pc' := 23) (v := (.int (0 : Int32))) dc_jdk_42_method_149_code_20 (hw _ (List.mem_of_getElem? (i := 28) rfl)) Via.refl c275 rfl ?_
  have c276 := ((q2_F.ext E264).other W272 (Or.inr (slot_ne (Or.inr (hw _ (List.mem_of_getElem? (i := 29) rfl))) (Or.inr (hw _ (List.mem_of_getElem? (i := 31) rfl))) (by decide) (t := .byte) (t' := (.array .byte)) (by decide) (by decide))))
  have c277 := (c271.wr W272)
  refine Wlk.putF (pc' := 26) (ty := .byte) dc_jdk_42_method_149_code_23 (hw _ (List.mem_of_getElem? (i := 28) rfl)) Via.refl c276 c277 (Or.inr ⟨(hw _ (List.mem_of_getElem? (i := 29) rfl)), rfl, rfl⟩) (hw _ (List.mem_of_getElem? (i := 4) rfl)) (by decide) rfl rfl q3_G rfl (fun h279 W278 => ?_)
  have F280 := c276.same W278
  refine Wlk.return_ dc_jdk_42_method_149_code_26 rfl (by decide) (by decide) ?_
  have c281 := ((A265.wr W272).wr W278)
  have c282 := ((A267.other W272 (Or.inl ne269)).other W278 (Or.inl ne269))
  have c283 := (c275.other W278 (Or.inl ne269))
  have c284 := ((A268.other W272 (Ne.symm (Exa.neArv (q0_E.ext E264) A268 (hw _ (List.mem_of_getElem? (i := 4) rfl))))).other W278 (Ne.symm (Exa.neArv (q0_E.ext E264) A268 (hw _ (List.mem_of_getElem? (i := 4) rfl)))))
  have c285 := (c277.wr W278)
  have c286 := (F274.other W278 (Or.inr (slot_ne (Or.inr (hw _ (List.mem_of_getElem? (i := 31) rfl))) (Or.inr (hw _ (List.mem_of_getElem? (i := 29) rfl))) (by decide) (t := (.array .byte)) (t' := .byte) (by decide) (by decide))))
  exact ⟨ca260, cb261, kb262, rfl, ((((Keep.refl h0 [s]).ext E264).wr W272 (Or.inl (List.mem_of_getElem? (i := 0) rfl))).wr W278 (Or.inl (List.mem_of_getElem? (i := 0) rfl))), c281, c282, c283, c284, c285, c286, F280, rfl⟩

set_option maxRecDepth 65536 in
set_option maxHeartbeats 40000000 in
theorem st_emp1c {l : Launch} {Z : State} {a0 : Array Value} (hw : ∀ d ∈ tables_1, d.before a0 Z = true) (s : Addr) (a : Addr) (u2 : Value) (ka : ClassId) (vs : List Value) (d : Value) (Ts : List String) (Lt : List (String × Nat × Addr)) (h0 : Heap) (q0_E : Exa Z h0 s "java/lang/String") (q1_F : Fld Z h0 s "java/lang/String" "value" "[B" .null) (q2_F : Fld Z h0 s "java/lang/String" "coder" "B" u2) (q3_G : Z.heap.size ≤ s) (q4_A : Arv Z h0 a ka .char (0 : Int32) vs d) (wS : ∀ a ∈ Bundle.stringAtoms, a.before a0 Z = true) (hcw : Jvm.Lit.compactW.before a0 Z = true) (hh_7 : Jvm.Lit.constHeld Z "java/lang/String" 7) (hnT : "" ∉ Ts) :
    Met l Z (⟨"java/lang/String", "<init>", "([C)V"⟩ : MethodName) jdk_42_method_3_code 2 none true [] ({ frames := 2, cells := 2, slots := 4, locals := 29 } : Room) #[(.ref s), (.ref a)] h0 (true, Ts, Lt) (fun v h J' => ∃ (c : Addr) (cb : Addr) (kb : ClassId), v = none ∧ Keep h0 h [s] ∧ Exa Z h c "java/lang/String" ∧ Fld Z h c "java/lang/String" "value" "[B" (.ref cb) ∧ Fld Z h c "java/lang/String" "coder" "B" (.int (0 : Int32)) ∧ Arv Z h cb kb .byte (0 : Int32) [] (.int 0) ∧ Exa Z h s "java/lang/String" ∧ Fld Z h s "java/lang/String" "value" "[B" (.ref cb) ∧ Fld Z h s "java/lang/String" "coder" "B" (.int (0 : Int32)) ∧ J' = (true, "" :: Ts, ("java/lang/String", 7, c) :: Lt)) := by
  refine Met.of_goes (Ls := #[.val (.ref s), .val (.ref a)]) (by first | exact plainFor_of_name (by first | (simp [plainName, overriddenIn]; done) | decide +kernel) | decide +kernel) (fun m => by first | (simp [entryFrame, mkF, argsToLocals, Value.category]; done) | rfl) rfl (fun G hGl => ?_)
  subst hGl
  refine Wlk.aloadN (pc' := 1) (v := (.ref s)) dc_jdk_42_method_3_code_0 rfl rfl rfl ?_
  refine Wlk.aloadN (pc' := 2) (v := (.ref a)) dc_jdk_42_method_3_code_1 rfl rfl rfl ?_
  refine Wlk.iconst (pc' := 3) (v := (0 : Int32)) dc_jdk_42_method_3_code_2 rfl rfl ?_
  refine Wlk.aloadN (pc' := 4) (v := (.ref a)) dc_jdk_42_method_3_code_3 rfl rfl rfl ?_
  refine Wlk.arraylength (pc' := 5) dc_jdk_42_method_3_code_4 q4_A rfl ?_
  refine Wlk.aconstNull (pc' := 6) dc_jdk_42_method_3_code_5 rfl ?_
  refine Wlk.callCw (pc' := 9) (a := s) (z := (⟨"java/lang/String", "<init>", "([CIILjava/lang/Void;)V"⟩ : MethodName)) (argsL := [(.ref a), (.int (0 : Int32)), (.int (0 : Int32)), .null]) (st := []) (W := 0) dc_jdk_42_method_3_code_6 (hw _ (List.mem_of_getElem? (i := 9) rfl)) (hw _ (List.mem_of_getElem? (i := 10) rfl)) (hw _ (List.mem_of_getElem? (i := 5) rfl)) (hw _ (List.mem_of_getElem? (i := 12) rfl)) (by decide) rfl pd_7 rfl (st_emp4c hw s a u2 ka vs d Ts Lt h0 q0_E q1_F q2_F q3_G q4_A wS hcw hh_7 (by first | exact hnT | decide)) (by decide) rfl (by decide) (by decide) (by decide) rfl rfl (fun v287 h288 J289 q290 => ?_)
  obtain ⟨c291, cb292, kb293, rfl, K294, n295, n296, n297, n298, n299, n300, n301, rfl⟩ := q290
  show Wlk _ _ _ _ _ _ _ _ _ h288 2 4 9 #[.val (.ref s), .val (.ref a)] []
  refine Wlk.return_ dc_jdk_42_method_3_code_9 rfl (by decide) (by decide) ?_
  exact ⟨c291, cb292, kb293, rfl, ((Keep.refl h0 [s]).trans K294 (allS (Or.inl (List.mem_of_getElem? (i := 0) rfl)) all0)), n295, n296, n297, n298, n299, n300, n301, rfl⟩

set_option maxRecDepth 65536 in
set_option maxHeartbeats 40000000 in
theorem st_emp4w {l : Launch} {Z : State} {a0 : Array Value} (hw : ∀ d ∈ tables_1, d.before a0 Z = true) (s : Addr) (a : Addr) (u2 : Value) (ka : ClassId) (vs : List Value) (d : Value) (c : Addr) (cb : Addr) (kb : ClassId) (Ts : List String) (Lt : List (String × Nat × Addr)) (h0 : Heap) (q0_E : Exa Z h0 s "java/lang/String") (q1_F : Fld Z h0 s "java/lang/String" "value" "[B" .null) (q2_F : Fld Z h0 s "java/lang/String" "coder" "B" u2) (q3_G : Z.heap.size ≤ s) (q4_A : Arv Z h0 a ka .char (0 : Int32) vs d) (q5_E : Exa Z h0 c "java/lang/String") (q6_F : Fld Z h0 c "java/lang/String" "value" "[B" (.ref cb)) (q7_F : Fld Z h0 c "java/lang/String" "coder" "B" (.int (0 : Int32))) (q8_A : Arv Z h0 cb kb .byte (0 : Int32) [] (.int 0)) (q9_NE : c ≠ s) (q10_NE : cb ≠ s) (hin : ("java/lang/String", 7, c) ∈ Lt) :
    Met l Z (⟨"java/lang/String", "<init>", "([CIILjava/lang/Void;)V"⟩ : MethodName) jdk_42_method_149_code 6 none true [] ({ frames := 1, cells := 0, slots := 0, locals := 12 } : Room) #[(.ref s), (.ref a), (.int (0 : Int32)), (.int (0 : Int32)), .null] h0 (true, Ts, Lt) (fun v h J' => v = none ∧ Keep h0 h [s] ∧ Exa Z h c "java/lang/String" ∧ Fld Z h c "java/lang/String" "value" "[B" (.ref cb) ∧ Fld Z h c "java/lang/String" "coder" "B" (.int (0 : Int32)) ∧ Arv Z h cb kb .byte (0 : Int32) [] (.int 0) ∧ Exa Z h s "java/lang/String" ∧ Fld Z h s "java/lang/String" "value" "[B" (.ref cb) ∧ Fld Z h s "java/lang/String" "coder" "B" (.int (0 : Int32)) ∧ J' = (true, Ts, Lt)) := by
  refine Met.of_goes (Ls := #[.val (.ref s), .val (.ref a), .val (.int (0 : Int32)), .val (.int (0 : Int32)), .val .null, .unset]) (by first | exact plainFor_of_name (by first | (simp [plainName, overriddenIn]; done) | decide +kernel) | decide +kernel) (fun m => by first | (simp [entryFrame, mkF, argsToLocals, Value.category]; done) | rfl) rfl (fun G hGl => ?_)
  subst hGl
  refine Wlk.aloadN (pc' := 1) (v := (.ref s)) dc_jdk_42_method_149_code_0 rfl rfl rfl ?_
  refine Wlk.initO (pc' := 4) (W := 0) dc_jdk_42_method_149_code_1 (hw _ (List.mem_of_getElem? (i := 13) rfl)) (hw _ (List.mem_of_getElem? (i := 14) rfl)) (hw _ (List.mem_of_getElem? (i := 15) rfl)) (by decide) rfl (by decide) rfl ?_
  refine Wlk.iloadN (pc' := 5) (v := (0 : Int32)) dc_jdk_42_method_149_code_4 rfl rfl ?_
  refine Wlk.ifF (pc' := 8) dc_jdk_42_method_149_code_5 (show (0 : Int32) = (0 : Int32) from by decide) rfl ?_
  refine Wlk.aloadN (pc' := 9) (v := (.ref s)) dc_jdk_42_method_149_code_8 rfl rfl rfl ?_
  refine Wlk.ldcOld (pc' := 11) (text := "") (a := c) dc_jdk_42_method_149_code_9 (hw _ (List.mem_of_getElem? (i := 132) rfl)) hin rfl ?_
  refine Wlk.getF (pc' := 14) (v := (.ref cb)) dc_jdk_42_method_149_code_11 (hw _ (List.mem_of_getElem? (i := 30) rfl)) Via.refl q6_F rfl ?_
  refine Wlk.putF (pc' := 17) (ty := (.array .byte)) dc_jdk_42_method_149_code_14 (hw _ (List.mem_of_getElem? (i := 30) rfl)) Via.refl q1_F q0_E (Or.inr ⟨(hw _ (List.mem_of_getElem? (i := 31) rfl)), rfl, rfl⟩) (hw _ (List.mem_of_getElem? (i := 4) rfl)) (by decide) rfl rfl q3_G rfl (fun h303 W302 => ?_)
  have F304 := q1_F.same W302
  refine Wlk.aloadN (pc' := 18) (v := (.ref s)) dc_jdk_42_method_149_code_17 rfl rfl rfl ?_
  refine Wlk.ldcOld (pc' := 20) (text := "") (a := c) dc_jdk_42_method_149_code_18 (hw _ (List.mem_of_getElem? (i := 132) rfl)) hin rfl ?_
  have c305 := (q7_F.other W302 (Or.inl q9_NE))
  refine Wlk.getF (pc' := 23) (v := (.int (0 : Int32))) dc_jdk_42_method_149_code_20 (hw _ (List.mem_of_getElem? (i := 28) rfl)) Via.refl c305 rfl ?_
  have c306 := (q2_F.other W302 (Or.inr (slot_ne (Or.inr (hw _ (List.mem_of_getElem? (i := 29) rfl))) (Or.inr (hw _ (List.mem_of_getElem? (i := 31) rfl))) (by decide) (t := .byte) (t' := (.array .byte)) (by decide) (by decide))))
  have c307 := (q0_E.wr W302)
  refine Wlk.putF (pc' := 26) (ty := .byte) dc_jdk_42_method_149_code_23 (hw _ (List.mem_of_getElem? (i := 28) rfl)) Via.refl c306 c307 (Or.inr ⟨(hw _ (List.mem_of_getElem? (i := 29) rfl)), rfl, rfl⟩) (hw _ (List.mem_of_getElem? (i := 4) rfl)) (by decide) rfl rfl q3_G rfl (fun h309 W308 => ?_)
  have F310 := c306.same W308
  refine Wlk.return_ dc_jdk_42_method_149_code_26 rfl (by decide) (by decide) ?_
  have c311 := ((q5_E.wr W302).wr W308)
  have c312 := ((q6_F.other W302 (Or.inl q9_NE)).other W308 (Or.inl q9_NE))
  have c313 := (c305.other W308 (Or.inl q9_NE))
  have c314 := ((q8_A.other W302 q10_NE).other W308 q10_NE)
  have c315 := (c307.wr W308)
  have c316 := (F304.other W308 (Or.inr (slot_ne (Or.inr (hw _ (List.mem_of_getElem? (i := 31) rfl))) (Or.inr (hw _ (List.mem_of_getElem? (i := 29) rfl))) (by decide) (t := (.array .byte)) (t' := .byte) (by decide) (by decide))))
  exact ⟨rfl, (((Keep.refl h0 [s]).wr W302 (Or.inl (List.mem_of_getElem? (i := 0) rfl))).wr W308 (Or.inl (List.mem_of_getElem? (i := 0) rfl))), c311, c312, c313, c314, c315, c316, F310, rfl⟩

set_option maxRecDepth 65536 in
set_option maxHeartbeats 40000000 in
theorem st_emp1w {l : Launch} {Z : State} {a0 : Array Value} (hw : ∀ d ∈ tables_1, d.before a0 Z = true) (s : Addr) (a : Addr) (u2 : Value) (ka : ClassId) (vs : List Value) (d : Value) (c : Addr) (cb : Addr) (kb : ClassId) (Ts : List String) (Lt : List (String × Nat × Addr)) (h0 : Heap) (q0_E : Exa Z h0 s "java/lang/String") (q1_F : Fld Z h0 s "java/lang/String" "value" "[B" .null) (q2_F : Fld Z h0 s "java/lang/String" "coder" "B" u2) (q3_G : Z.heap.size ≤ s) (q4_A : Arv Z h0 a ka .char (0 : Int32) vs d) (q5_E : Exa Z h0 c "java/lang/String") (q6_F : Fld Z h0 c "java/lang/String" "value" "[B" (.ref cb)) (q7_F : Fld Z h0 c "java/lang/String" "coder" "B" (.int (0 : Int32))) (q8_A : Arv Z h0 cb kb .byte (0 : Int32) [] (.int 0)) (q9_NE : c ≠ s) (q10_NE : cb ≠ s) (hin : ("java/lang/String", 7, c) ∈ Lt) :
    Met l Z (⟨"java/lang/String", "<init>", "([C)V"⟩ : MethodName) jdk_42_method_3_code 2 none true [] ({ frames := 2, cells := 0, slots := 0, locals := 29 } : Room) #[(.ref s), (.ref a)] h0 (true, Ts, Lt) (fun v h J' => v = none ∧ Keep h0 h [s] ∧ Exa Z h c "java/lang/String" ∧ Fld Z h c "java/lang/String" "value" "[B" (.ref cb) ∧ Fld Z h c "java/lang/String" "coder" "B" (.int (0 : Int32)) ∧ Arv Z h cb kb .byte (0 : Int32) [] (.int 0) ∧ Exa Z h s "java/lang/String" ∧ Fld Z h s "java/lang/String" "value" "[B" (.ref cb) ∧ Fld Z h s "java/lang/String" "coder" "B" (.int (0 : Int32)) ∧ J' = (true, Ts, Lt)) := by
  refine Met.of_goes (Ls := #[.val (.ref s), .val (.ref a)]) (by first | exact plainFor_of_name (by first | (simp [plainName, overriddenIn]; done) | decide +kernel) | decide +kernel) (fun m => by first | (simp [entryFrame, mkF, argsToLocals, Value.category]; done) | rfl) rfl (fun G hGl => ?_)
  subst hGl
  refine Wlk.aloadN (pc' := 1) (v := (.ref s)) dc_jdk_42_method_3_code_0 rfl rfl rfl ?_
  refine Wlk.aloadN (pc' := 2) (v := (.ref a)) dc_jdk_42_method_3_code_1 rfl rfl rfl ?_
  refine Wlk.iconst (pc' := 3) (v := (0 : Int32)) dc_jdk_42_method_3_code_2 rfl rfl ?_
  refine Wlk.aloadN (pc' := 4) (v := (.ref a)) dc_jdk_42_method_3_code_3 rfl rfl rfl ?_
  refine Wlk.arraylength (pc' := 5) dc_jdk_42_method_3_code_4 q4_A rfl ?_
  refine Wlk.aconstNull (pc' := 6) dc_jdk_42_method_3_code_5 rfl ?_
  refine Wlk.callCw (pc' := 9) (a := s) (z := (⟨"java/lang/String", "<init>", "([CIILjava/lang/Void;)V"⟩ : MethodName)) (argsL := [(.ref a), (.int (0 : Int32)), (.int (0 : Int32)), .null]) (st := []) (W := 0) dc_jdk_42_method_3_code_6 (hw _ (List.mem_of_getElem? (i := 9) rfl)) (hw _ (List.mem_of_getElem? (i := 10) rfl)) (hw _ (List.mem_of_getElem? (i := 5) rfl)) (hw _ (List.mem_of_getElem? (i := 12) rfl)) (by decide) rfl pd_7 rfl (st_emp4w hw s a u2 ka vs d c cb kb Ts Lt h0 q0_E q1_F q2_F q3_G q4_A q5_E q6_F q7_F q8_A q9_NE q10_NE (by first | exact hin | simp)) (by decide) rfl (by decide) (by decide) (by decide) rfl rfl (fun v317 h318 J319 q320 => ?_)
  obtain ⟨rfl, K321, n322, n323, n324, n325, n326, n327, n328, rfl⟩ := q320
  show Wlk _ _ _ _ _ _ _ _ _ h318 0 0 9 #[.val (.ref s), .val (.ref a)] []
  refine Wlk.return_ dc_jdk_42_method_3_code_9 rfl (by decide) (by decide) ?_
  exact ⟨rfl, ((Keep.refl h0 [s]).trans K321 (allS (Or.inl (List.mem_of_getElem? (i := 0) rfl)) all0)), n322, n323, n324, n325, n326, n327, n328, rfl⟩

set_option maxRecDepth 65536 in
set_option maxHeartbeats 40000000 in
theorem rm_fold {l : Launch} {Z : State} {a0 : Array Value} (hw : ∀ d ∈ tables_1, d.before a0 Z = true) (c : Int32) (h0 : Heap) (r0 : ¬ c < 0) (r1 : ¬ (65535 : Int32) < c) :
    Met l Z (⟨"com/example/strict_crosswalk/strictcrosswalk/forms/DoiCaseFoldedPinLaw", "fold", "(C)C"⟩ : MethodName) method_2_code 1 (some .char) false [] ({ frames := 0, cells := 0, slots := 0, locals := 0 } : Room) #[(.int c)] h0 (false, [], []) (fun v h J' => v = some (.int (fo c)) ∧ h0 = h) := by
  refine Met.of_goes (Ls := #[.val (.int c)]) (by first | exact plainFor_of_name (by first | (simp [plainName, overriddenIn]; done) | decide +kernel) | decide +kernel) (fun m => by first | (simp [entryFrame, mkF, argsToLocals, Value.category]; done) | rfl) rfl (fun G hGl => ?_)
  subst hGl
  refine Wlk.iloadN (pc' := 1) (v := c) dc_method_2_code_0 rfl rfl ?_
  refine Wlk.bipush (pc' := 3) (v := (65 : Int32)) dc_method_2_code_1 (by decide) rfl ?_
  refine Wlk.ic_ (pcT := 18) (pcF := 6) dc_method_2_code_3 (by decide) (by decide) rfl (fun (hc329 : c < (65 : Int32)) => ?_) (fun (hc329 : ¬ (c < (65 : Int32))) => ?_)
  · skip
    refine Wlk.iloadN (pc' := 19) (v := c) dc_method_2_code_18 rfl rfl ?_
    refine Wlk.ireturnN (t := .char) dc_method_2_code_19 rfl (by simp) (by decide) (by decide) ?_
    exact ⟨(congrArg (fun z => some (Value.int z)) ((nar_char r0 r1).trans (fo_lo hc329).symm)), rfl⟩
  · skip
    refine Wlk.iloadN (pc' := 7) (v := c) dc_method_2_code_6 rfl rfl ?_
    refine Wlk.bipush (pc' := 9) (v := (90 : Int32)) dc_method_2_code_7 (by decide) rfl ?_
    refine Wlk.ic_ (pcT := 18) (pcF := 12) dc_method_2_code_9 (by decide) (by decide) rfl (fun (hc330 : (90 : Int32) < c) => ?_) (fun (hc330 : ¬ ((90 : Int32) < c)) => ?_)
    · skip
      refine Wlk.iloadN (pc' := 19) (v := c) dc_method_2_code_18 rfl rfl ?_
      refine Wlk.ireturnN (t := .char) dc_method_2_code_19 rfl (by simp) (by decide) (by decide) ?_
      exact ⟨(congrArg (fun z => some (Value.int z)) ((nar_char r0 r1).trans (fo_hi hc330).symm)), rfl⟩
    · skip
      refine Wlk.iloadN (pc' := 13) (v := c) dc_method_2_code_12 rfl rfl ?_
      refine Wlk.bipush (pc' := 15) (v := (32 : Int32)) dc_method_2_code_13 (by decide) rfl ?_
      refine Wlk.ior (pc' := 16) dc_method_2_code_15 rfl ?_
      refine Wlk.i2c (pc' := 17) dc_method_2_code_16 rfl ?_
      refine Wlk.ireturnN (t := .char) dc_method_2_code_17 rfl (by simp) (by decide) (by decide) ?_
      exact ⟨(congrArg (fun z => some (Value.int z)) (fo_mid hc329 hc330).2.1), rfl⟩

set_option maxRecDepth 65536 in
set_option maxHeartbeats 40000000 in
theorem rm_at {l : Launch} {Z : State} {a0 : Array Value} (hw : ∀ d ∈ tables_1, d.before a0 Z = true) (s : Addr) (t : Addr) (a : Addr) (ka : ClassId) (cs : List Int32) (d : Value) (i : Nat) (c : Int32) (sf : Value) (zc : Int32) (h0 : Heap) (q0_Sta : Sta Z Z.heap "java/lang/StringUTF16" "$assertionsDisabled" "Z" (.int (1 : Int32))) (q1_Sta : Sta Z Z.heap "java/lang/StringUTF16" "HI_BYTE_SHIFT" "I" (.int (0 : Int32))) (q2_Sta : Sta Z Z.heap "java/lang/StringUTF16" "LO_BYTE_SHIFT" "I" (.int (8 : Int32))) (q3_Sta : Sta Z Z.heap "jdk/internal/util/Preconditions" "SIOOBE_FORMATTER" "Ljava/util/function/BiFunction;" sf) (hsf : sf.isRef = true) (q5_Sta : Sta Z Z.heap "java/lang/String" "COMPACT_STRINGS" "Z" (.int zc)) (P3 : ¬ zc = 0) (q7_SA : StrA Z h0 s t (cs.map fo)) (q8_A : Arv Z h0 a ka .char (Int32.ofNat cs.length) (vC cs) d) (hi : i < cs.length) (hn : cs.length ≤ 4) (hc : cs[i]? = some c) (hR : ∀ c ∈ cs, ¬ c < 0 ∧ ¬ (65535 : Int32) < c) :
    Met l Z (⟨"com/example/strict_crosswalk/strictcrosswalk/forms/DoiCaseFoldedPinLaw", "at", "(Ljava/lang/String;[CI)Z"⟩ : MethodName) method_3_code 3 (some .boolean) false [] ({ frames := 5, cells := 0, slots := 0, locals := 66 } : Room) #[(.ref s), (.ref a), (.int (Int32.ofNat i))] h0 (false, [], []) (fun v h J' => v = some (.int (1 : Int32)) ∧ h0 = h) := by
  refine Met.of_goes (Ls := #[.val (.ref s), .val (.ref a), .val (.int (Int32.ofNat i))]) (by first | exact plainFor_of_name (by first | (simp [plainName, overriddenIn]; done) | decide +kernel) | decide +kernel) (fun m => by first | (simp [entryFrame, mkF, argsToLocals, Value.category]; done) | rfl) rfl (fun G hGl => ?_)
  subst hGl
  have r0 := (hR c (List.mem_of_getElem? hc)).1
  have r1 := (hR c (List.mem_of_getElem? hc)).2
  have hi2 : i < (cs.map fo).length := by simpa using hi
  have hn2 : (cs.map fo).length ≤ 4000 := by simp; omega
  have hc2 : (cs.map fo)[i]? = some (fo c) := by simp [hc]
  refine Wlk.iloadN (pc' := 1) (v := (Int32.ofNat i)) dc_method_3_code_0 rfl rfl ?_
  refine Wlk.aloadN (pc' := 2) (v := (.ref a)) dc_method_3_code_1 rfl rfl rfl ?_
  refine Wlk.arraylength (pc' := 3) dc_method_3_code_2 q8_A rfl ?_
  refine Wlk.icT (pc' := 8) dc_method_3_code_3 (by decide) (by decide) (show (Int32.ofNat i) < (Int32.ofNat cs.length) from ((i32_lt (by omega) (by omega)).mpr hi)) ?_
  refine Wlk.aloadN (pc' := 9) (v := (.ref s)) dc_method_3_code_8 rfl rfl rfl ?_
  refine Wlk.iloadN (pc' := 10) (v := (Int32.ofNat i)) dc_method_3_code_9 rfl rfl ?_
  refine Wlk.callV (pc' := 13) (a := s) (x := (⟨"java/lang/String", "charAt", "(I)C"⟩ : MethodName)) (C := "java/lang/String") (z := (⟨"java/lang/String", "charAt", "(I)C"⟩ : MethodName)) (argsL := [(.int (Int32.ofNat i))]) (st := []) (W := 0) dc_method_3_code_10 (hw _ (List.mem_of_getElem? (i := 69) rfl)) (hw _ (List.mem_of_getElem? (i := 70) rfl)) (fun s q => notFace_of_selects (args := #[]) (mvT q (hw _ (List.mem_of_getElem? (i := 72) rfl)))) (hw _ (List.mem_of_getElem? (i := 72) rfl)) (hw _ (List.mem_of_getElem? (i := 71) rfl)) q7_SA.exa (hw _ (List.mem_of_getElem? (i := 5) rfl)) (hw _ (List.mem_of_getElem? (i := 73) rfl)) (by decide) pd_20 rfl (st_ca hw s t i (fo c) (cs.map fo) sf zc h0 q0_Sta q1_Sta q2_Sta q3_Sta hsf q5_Sta P3 q7_SA hi2 hn2 hc2 ((fo_rng r0 r1).1) ((fo_rng r0 r1).2)) (by decide) rfl (by decide) (by decide) (by decide) rfl rfl (fun v331 h332 J333 q334 => ?_)
  obtain ⟨rfl, rfl⟩ := q334
  show Wlk _ _ _ _ _ _ _ _ _ h0 0 0 13 #[.val (.ref s), .val (.ref a), .val (.int (Int32.ofNat i))] [(.int (fo c))]
  refine Wlk.aloadN (pc' := 14) (v := (.ref a)) dc_method_3_code_13 rfl rfl rfl ?_
  refine Wlk.iloadN (pc' := 15) (v := (Int32.ofNat i)) dc_method_3_code_14 rfl rfl ?_
  refine Wlk.caload (pc' := 16) (v := (.int c)) dc_method_3_code_15 q8_A ⟨i32_nn (by omega), (i32_lt (by omega) (by omega)).mpr (by omega)⟩ (by rw [i32_cl (by omega)]; simp [vC, List.getD_eq_getElem?_getD, hc]) rfl ?_
  refine Wlk.callS (pc' := 19) (z := (⟨"com/example/strict_crosswalk/strictcrosswalk/forms/DoiCaseFoldedPinLaw", "fold", "(C)C"⟩ : MethodName)) (argsL := [(.int c)]) (st := [(.int (fo c))]) (W := 1) dc_method_3_code_16 (hw _ (List.mem_of_getElem? (i := 85) rfl)) (hw _ (List.mem_of_getElem? (i := 86) rfl)) (hw _ (List.mem_of_getElem? (i := 67) rfl)) (hw _ (List.mem_of_getElem? (i := 87) rfl)) (by decide) pd_21 rfl (rm_fold hw c h0 r0 r1) (by decide) rfl (by decide) (by decide) (by decide) rfl rfl (fun v335 h336 J337 q338 => ?_)
  obtain ⟨rfl, rfl⟩ := q338
  show Wlk _ _ _ _ _ _ _ _ _ h0 0 0 19 #[.val (.ref s), .val (.ref a), .val (.int (Int32.ofNat i))] [(.int (fo c)), (.int (fo c))]
  refine Wlk.icF (pc' := 22) dc_method_3_code_19 (show (fo c) = (fo c) from rfl) rfl ?_
  refine Wlk.iconst (pc' := 23) (v := (1 : Int32)) dc_method_3_code_22 rfl rfl ?_
  refine Wlk.goto (pc' := 27) dc_method_3_code_23 (by decide) (by decide) ?_
  refine Wlk.ireturnN (t := .boolean) dc_method_3_code_27 rfl (by simp) (by decide) (by decide) ?_
  exact ⟨rfl, rfl⟩

set_option maxRecDepth 65536 in
set_option maxHeartbeats 40000000 in
theorem rm_at0 {l : Launch} {Z : State} {a0 : Array Value} (hw : ∀ d ∈ tables_1, d.before a0 Z = true) (s : Addr) (a : Addr) (ka : ClassId) (z : Int32) (vs : List Value) (d : Value) (i : Int32) (h0 : Heap) (q0_A : Arv Z h0 a ka .char z vs d) (hz : ¬ i < z) :
    Met l Z (⟨"com/example/strict_crosswalk/strictcrosswalk/forms/DoiCaseFoldedPinLaw", "at", "(Ljava/lang/String;[CI)Z"⟩ : MethodName) method_3_code 3 (some .boolean) false [] ({ frames := 0, cells := 0, slots := 0, locals := 0 } : Room) #[(.ref s), (.ref a), (.int i)] h0 (false, [], []) (fun v h J' => v = some (.int (1 : Int32)) ∧ h0 = h) := by
  refine Met.of_goes (Ls := #[.val (.ref s), .val (.ref a), .val (.int i)]) (by first | exact plainFor_of_name (by first | (simp [plainName, overriddenIn]; done) | decide +kernel) | decide +kernel) (fun m => by first | (simp [entryFrame, mkF, argsToLocals, Value.category]; done) | rfl) rfl (fun G hGl => ?_)
  subst hGl
  refine Wlk.iloadN (pc' := 1) (v := i) dc_method_3_code_0 rfl rfl ?_
  refine Wlk.aloadN (pc' := 2) (v := (.ref a)) dc_method_3_code_1 rfl rfl rfl ?_
  refine Wlk.arraylength (pc' := 3) dc_method_3_code_2 q0_A rfl ?_
  refine Wlk.icF (pc' := 6) dc_method_3_code_3 (show ¬ (i < z) from hz) rfl ?_
  refine Wlk.iconst (pc' := 7) (v := (1 : Int32)) dc_method_3_code_6 rfl rfl ?_
  refine Wlk.ireturnN (t := .boolean) dc_method_3_code_7 rfl (by simp) (by decide) (by decide) ?_
  exact ⟨rfl, rfl⟩

set_option maxRecDepth 65536 in
set_option maxHeartbeats 40000000 in
theorem rm_cf {l : Launch} {Z : State} {a0 : Array Value} (hw : ∀ d ∈ tables_1, d.before a0 Z = true) (s : Addr) (t : Addr) (cs : List Int32) (sf : Value) (zc : Int32) (h0 : Heap) (q0_Sta : Sta Z Z.heap "java/lang/StringUTF16" "$assertionsDisabled" "Z" (.int (1 : Int32))) (q1_Sta : Sta Z Z.heap "java/lang/StringUTF16" "HI_BYTE_SHIFT" "I" (.int (0 : Int32))) (q2_Sta : Sta Z Z.heap "java/lang/StringUTF16" "LO_BYTE_SHIFT" "I" (.int (8 : Int32))) (q3_Sta : Sta Z Z.heap "jdk/internal/util/Preconditions" "SIOOBE_FORMATTER" "Ljava/util/function/BiFunction;" sf) (hsf : sf.isRef = true) (q5_Sta : Sta Z Z.heap "java/lang/String" "COMPACT_STRINGS" "Z" (.int zc)) (P3 : ¬ zc = 0) (q7_SA : StrA Z h0 s t cs) (hn : cs.length ≤ 4) (hp : 0 < cs.length) (hR : ∀ c ∈ cs, ¬ c < 0 ∧ ¬ (65535 : Int32) < c) :
    Met l Z (⟨"com/example/strict_crosswalk/strictcrosswalk/forms/Doi", "caseFolded", "(Ljava/lang/String;)Ljava/lang/String;"⟩ : MethodName) prog_16_method_5_code 3 (some (.object "java/lang/String")) false [] ({ frames := 6, cells := 4, slots := 20, locals := 88 } : Room) #[(.ref s)] h0 (false, [], []) (fun v h J' => ∃ (x : Addr) (u : Addr), v = some (.ref x) ∧ h0.size ≤ x ∧ Z.heap.size ≤ x ∧ h0.size ≤ u ∧ Z.heap.size ≤ u ∧ Keep h0 h [] ∧ StrA Z h x u (cs.map fo)) := by
  refine Met.of_goes (Ls := #[.val (.ref s), .unset, .unset]) (by first | exact plainFor_of_name (by first | (simp [plainName, overriddenIn]; done) | decide +kernel) | decide +kernel) (fun m => by first | (simp [entryFrame, mkF, argsToLocals, Value.category]; done) | rfl) rfl (fun G hGl => ?_)
  subst hGl
  refine Wlk.aloadN (pc' := 1) (v := (.ref s)) dc_prog_16_method_5_code_0 rfl rfl rfl ?_
  refine Wlk.callV (pc' := 4) (a := s) (x := (⟨"java/lang/String", "toCharArray", "()[C"⟩ : MethodName)) (C := "java/lang/String") (z := (⟨"java/lang/String", "toCharArray", "()[C"⟩ : MethodName)) (argsL := []) (st := []) (W := 0) dc_prog_16_method_5_code_1 (hw _ (List.mem_of_getElem? (i := 36) rfl)) (hw _ (List.mem_of_getElem? (i := 37) rfl)) (fun s q => notFace_of_selects (args := #[]) (mvT q (hw _ (List.mem_of_getElem? (i := 39) rfl)))) (hw _ (List.mem_of_getElem? (i := 39) rfl)) (hw _ (List.mem_of_getElem? (i := 38) rfl)) q7_SA.exa (hw _ (List.mem_of_getElem? (i := 5) rfl)) (hw _ (List.mem_of_getElem? (i := 40) rfl)) (by decide) pd_22 rfl (st_tca hw s t cs sf zc h0 q0_Sta q1_Sta q2_Sta q3_Sta hsf q5_Sta P3 q7_SA (by first | exact hn | omega | exact Nat.le_of_ble_eq_true rfl) hR) (by decide) rfl (by decide) (by decide) (by decide) rfl rfl (fun v339 h340 J341 q342 => ?_)
  obtain ⟨a343, ka344, rfl, le345, g346, K347, n348⟩ := q342
  show Wlk _ _ _ _ _ _ _ _ _ h340 1 4 4 #[.val (.ref s), .unset, .unset] [(.ref a343)]
  refine Wlk.astoreN (pc' := 5) (Ls' := #[.val (.ref s), .val (.ref a343), .unset]) dc_prog_16_method_5_code_4 rfl rfl rfl rfl ?_
  refine Wlk.iconst (pc' := 6) (v := (0 : Int32)) dc_prog_16_method_5_code_5 rfl rfl ?_
  refine Wlk.istoreN (pc' := 7) (Ls' := #[.val (.ref s), .val (.ref a343), .val (.int (0 : Int32))]) dc_prog_16_method_5_code_6 rfl rfl rfl ?_
  have loop : ∀ (rest pre : List Int32) (h : Heap), cs = pre ++ rest → Keep h340 h [a343] → Arv Z h a343 ka344 .char (Int32.ofNat cs.length) (vC (pre.map fo ++ rest)) (.int 0) → Wlk G ({ frames := 6, cells := 4, slots := 20, locals := 88 } : Room) Z (⟨"com/example/strict_crosswalk/strictcrosswalk/forms/Doi", "caseFolded", "(Ljava/lang/String;)Ljava/lang/String;"⟩ : MethodName) prog_16_method_5_code (some (.object "java/lang/String")) false (false, [], []) (fun v h J' => ∃ (x : Addr) (u : Addr), v = some (.ref x) ∧ h0.size ≤ x ∧ Z.heap.size ≤ x ∧ h0.size ≤ u ∧ Z.heap.size ≤ u ∧ Keep h0 h [] ∧ StrA Z h x u (cs.map fo)) h 1 4 7 #[.val (.ref s), .val (.ref a343), .val (.int (Int32.ofNat pre.length))] [] := by
    intro rest
    induction rest with
    | nil =>
      intro pre h hcs K B
      rw [List.append_nil] at hcs
      subst hcs
      have hlen : (cs.map fo).length = cs.length := List.length_map ..
      have B3 : Arv Z h a343 ka344 .char (Int32.ofNat (cs.map fo).length) (vC (cs.map fo)) (.int 0) := by rw [hlen]; rw [List.append_nil] at B; exact B
      rw [← hlen]
      refine Wlk.iloadN (pc' := 8) (v := (Int32.ofNat (cs.map fo).length)) dc_prog_16_method_5_code_7 rfl rfl ?_
      refine Wlk.aloadN (pc' := 9) (v := (.ref a343)) dc_prog_16_method_5_code_8 rfl rfl rfl ?_
      refine Wlk.arraylength (pc' := 10) dc_prog_16_method_5_code_9 B3 rfl ?_
      refine Wlk.icT (pc' := 48) dc_prog_16_method_5_code_10 (by decide) (by decide) (show ¬ ((Int32.ofNat (cs.map fo).length) < (Int32.ofNat (cs.map fo).length)) from (fun q => Int32.lt_irrefl q)) ?_
      refine Wlk.newO (pc' := 51) (C := "java/lang/String") dc_prog_16_method_5_code_48 (hw _ (List.mem_of_getElem? (i := 53) rfl)) (hw _ (List.mem_of_getElem? (i := 4) rfl)) (hw _ (List.mem_of_getElem? (i := 5) rfl)) (by decide) (by decide) rfl (fun b349 h350 le351 g352 E353 A354 D355 => ?_)
      have F356 : Fld Z h350 b349 "java/lang/String" "coder" "B" (.int (0 : Int32)) := D355 (Or.inr (hw _ (List.mem_of_getElem? (i := 29) rfl))) (ty := .byte) (by decide)
      have F357 : Fld Z h350 b349 "java/lang/String" "value" "[B" .null := D355 (Or.inr (hw _ (List.mem_of_getElem? (i := 31) rfl))) (ty := (.array .byte)) (by decide)
      refine Wlk.dup (pc' := 52) dc_prog_16_method_5_code_51 rfl rfl ?_
      refine Wlk.aloadN (pc' := 53) (v := (.ref a343)) dc_prog_16_method_5_code_52 rfl rfl rfl ?_
      have c358 := (B3.ext E353)
      refine Wlk.callC (pc' := 56) (a := b349) (z := (⟨"java/lang/String", "<init>", "([C)V"⟩ : MethodName)) (argsL := [(.ref a343)]) (st := [(.ref b349)]) (W := 1) dc_prog_16_method_5_code_53 (hw _ (List.mem_of_getElem? (i := 54) rfl)) (hw _ (List.mem_of_getElem? (i := 7) rfl)) (hw _ (List.mem_of_getElem? (i := 5) rfl)) (hw _ (List.mem_of_getElem? (i := 8) rfl)) (by decide) rfl pd_23 rfl (st_ini1A hw b349 a343 .null (.int (0 : Int32)) ka344 (cs.map fo) (.int 0) zc h350 q0_Sta q1_Sta q2_Sta A354 F357 F356 g352 c358 q5_Sta P3 (by rw [hlen]; exact hn) (by rw [hlen]; exact hp) (fo_rngs hR)) (by decide) rfl (by decide) (by decide) (by decide) rfl rfl (fun v359 h360 J361 q362 => ?_)
      obtain ⟨t363, rfl, le364, g365, K366, n367⟩ := q362
      show Wlk _ _ _ _ _ _ _ _ _ h360 4 20 56 #[.val (.ref s), .val (.ref a343), .val (.int (Int32.ofNat (cs.map fo).length))] [(.ref b349)]
      refine Wlk.areturn (t := (.object "java/lang/String")) dc_prog_16_method_5_code_56 rfl rfl rfl rfl (by decide) (by decide) ?_
      exact ⟨b349, t363, rfl, (Nat.le_trans (Nat.le_trans K347.1 K.1) le351), g352, (Nat.le_trans (Nat.le_trans (Nat.le_trans K347.1 K.1) E353.1) le364), g365, (((((Keep.refl h0 []).trans K347 all0).trans K (allS (Or.inr (Nat.le_trans (Nat.le_refl _) le345)) all0)).ext E353).trans K366 (allS (Or.inr (Nat.le_trans (Nat.le_trans K347.1 K.1) le351)) all0)), n367⟩
    | cons c rest ih =>
      intro pre h hcs K B
      have hl : cs.length = pre.length + (rest.length + 1) := by rw [hcs]; simp
      have hcr := hR c (by rw [hcs]; simp)
      refine Wlk.iloadN (pc' := 8) (v := (Int32.ofNat pre.length)) dc_prog_16_method_5_code_7 rfl rfl ?_
      refine Wlk.aloadN (pc' := 9) (v := (.ref a343)) dc_prog_16_method_5_code_8 rfl rfl rfl ?_
      refine Wlk.arraylength (pc' := 10) dc_prog_16_method_5_code_9 B rfl ?_
      refine Wlk.icF (pc' := 13) dc_prog_16_method_5_code_10 (show (Int32.ofNat pre.length) < (Int32.ofNat cs.length) from ((i32_lt (by omega) (by omega)).mpr (by omega))) rfl ?_
      refine Wlk.aloadN (pc' := 14) (v := (.ref a343)) dc_prog_16_method_5_code_13 rfl rfl rfl ?_
      refine Wlk.iloadN (pc' := 15) (v := (Int32.ofNat pre.length)) dc_prog_16_method_5_code_14 rfl rfl ?_
      refine Wlk.caload (pc' := 16) (v := (.int c)) dc_prog_16_method_5_code_15 B ⟨i32_nn (by omega), (i32_lt (by omega) (by omega)).mpr (by omega)⟩ (by rw [i32_cl (by omega)]; simp [vC]) rfl ?_
      refine Wlk.bipush (pc' := 18) (v := (65 : Int32)) dc_prog_16_method_5_code_16 (by decide) rfl ?_
      refine Wlk.ic_ (pcT := 42) (pcF := 21) dc_prog_16_method_5_code_18 (by decide) (by decide) rfl (fun (hc368 : c < (65 : Int32)) => ?_) (fun (hc368 : ¬ (c < (65 : Int32))) => ?_)
      · skip
        refine Wlk.iinc (pc' := 45) (v := (1 : Int32)) (x := (Int32.ofNat pre.length)) (Ls' := #[.val (.ref s), .val (.ref a343), .val (.int ((Int32.ofNat pre.length) + (1 : Int32)))]) dc_prog_16_method_5_code_42 (by decide) rfl rfl rfl rfl ?_
        refine Wlk.goto (pc' := 7) dc_prog_16_method_5_code_45 (by decide) (by decide) ?_
        have e1 : Int32.ofNat pre.length + 1 = Int32.ofNat (pre ++ [c]).length := by rw [i32_succ]; simp
        rw [e1]
        exact ih (pre ++ [c]) _ (by rw [hcs]; simp) K (fo_same (fo_lo hc368) ▸ B)
      · skip
        refine Wlk.aloadN (pc' := 22) (v := (.ref a343)) dc_prog_16_method_5_code_21 rfl rfl rfl ?_
        refine Wlk.iloadN (pc' := 23) (v := (Int32.ofNat pre.length)) dc_prog_16_method_5_code_22 rfl rfl ?_
        refine Wlk.caload (pc' := 24) (v := (.int c)) dc_prog_16_method_5_code_23 B ⟨i32_nn (by omega), (i32_lt (by omega) (by omega)).mpr (by omega)⟩ (by rw [i32_cl (by omega)]; simp [vC]) rfl ?_
        refine Wlk.bipush (pc' := 26) (v := (90 : Int32)) dc_prog_16_method_5_code_24 (by decide) rfl ?_
        refine Wlk.ic_ (pcT := 42) (pcF := 29) dc_prog_16_method_5_code_26 (by decide) (by decide) rfl (fun (hc369 : (90 : Int32) < c) => ?_) (fun (hc369 : ¬ ((90 : Int32) < c)) => ?_)
        · skip
          refine Wlk.iinc (pc' := 45) (v := (1 : Int32)) (x := (Int32.ofNat pre.length)) (Ls' := #[.val (.ref s), .val (.ref a343), .val (.int ((Int32.ofNat pre.length) + (1 : Int32)))]) dc_prog_16_method_5_code_42 (by decide) rfl rfl rfl rfl ?_
          refine Wlk.goto (pc' := 7) dc_prog_16_method_5_code_45 (by decide) (by decide) ?_
          have e1 : Int32.ofNat pre.length + 1 = Int32.ofNat (pre ++ [c]).length := by rw [i32_succ]; simp
          rw [e1]
          exact ih (pre ++ [c]) _ (by rw [hcs]; simp) K (fo_same (fo_hi hc369) ▸ B)
        · skip
          refine Wlk.aloadN (pc' := 30) (v := (.ref a343)) dc_prog_16_method_5_code_29 rfl rfl rfl ?_
          refine Wlk.iloadN (pc' := 31) (v := (Int32.ofNat pre.length)) dc_prog_16_method_5_code_30 rfl rfl ?_
          refine Wlk.aloadN (pc' := 32) (v := (.ref a343)) dc_prog_16_method_5_code_31 rfl rfl rfl ?_
          refine Wlk.iloadN (pc' := 33) (v := (Int32.ofNat pre.length)) dc_prog_16_method_5_code_32 rfl rfl ?_
          refine Wlk.caload (pc' := 34) (v := (.int c)) dc_prog_16_method_5_code_33 B ⟨i32_nn (by omega), (i32_lt (by omega) (by omega)).mpr (by omega)⟩ (by rw [i32_cl (by omega)]; simp [vC]) rfl ?_
          refine Wlk.bipush (pc' := 36) (v := (65 : Int32)) dc_prog_16_method_5_code_34 (by decide) rfl ?_
          refine Wlk.isub (pc' := 37) dc_prog_16_method_5_code_36 rfl ?_
          refine Wlk.bipush (pc' := 39) (v := (97 : Int32)) dc_prog_16_method_5_code_37 (by decide) rfl ?_
          refine Wlk.iadd (pc' := 40) dc_prog_16_method_5_code_39 rfl ?_
          refine Wlk.i2c (pc' := 41) dc_prog_16_method_5_code_40 rfl ?_
          refine Wlk.castore (pc' := 42) (i := pre.length) dc_prog_16_method_5_code_41 B ⟨i32_nn (by omega), (i32_lt (by omega) (by omega)).mpr (by omega)⟩ (i32_cl (by omega)) (by simp [vC]) g346 rfl (fun h370 W371 A372 => ?_)
          rw [(fo_mid hc368 hc369).1] at A372
          refine Wlk.iinc (pc' := 45) (v := (1 : Int32)) (x := (Int32.ofNat pre.length)) (Ls' := #[.val (.ref s), .val (.ref a343), .val (.int ((Int32.ofNat pre.length) + (1 : Int32)))]) dc_prog_16_method_5_code_42 (by decide) rfl rfl rfl rfl ?_
          refine Wlk.goto (pc' := 7) dc_prog_16_method_5_code_45 (by decide) (by decide) ?_
          have e1 : Int32.ofNat pre.length + 1 = Int32.ofNat (pre ++ [c]).length := by rw [i32_succ]; simp
          rw [e1]
          exact ih (pre ++ [c]) _ (by rw [hcs]; simp) (K.wr W371 (Or.inl (List.mem_of_getElem? (i := 0) rfl))) (fo_set pre rest c ▸ A372)
  exact loop cs [] h340 rfl (Keep.refl _ _) n348

set_option maxRecDepth 65536 in
set_option maxHeartbeats 40000000 in
theorem rm_cf0 {l : Launch} {Z : State} {a0 : Array Value} (hw : ∀ d ∈ tables_1, d.before a0 Z = true) (s : Addr) (c : Addr) (cb : Addr) (kb : ClassId) (sf : Value) (zc : Int32) (Ts : List String) (Lt : List (String × Nat × Addr)) (h0 : Heap) (q0_Sta : Sta Z Z.heap "java/lang/StringUTF16" "$assertionsDisabled" "Z" (.int (1 : Int32))) (q1_Sta : Sta Z Z.heap "java/lang/StringUTF16" "HI_BYTE_SHIFT" "I" (.int (0 : Int32))) (q2_Sta : Sta Z Z.heap "java/lang/StringUTF16" "LO_BYTE_SHIFT" "I" (.int (8 : Int32))) (q3_Sta : Sta Z Z.heap "jdk/internal/util/Preconditions" "SIOOBE_FORMATTER" "Ljava/util/function/BiFunction;" sf) (hsf : sf.isRef = true) (q5_Sta : Sta Z Z.heap "java/lang/String" "COMPACT_STRINGS" "Z" (.int zc)) (P3 : ¬ zc = 0) (q7_E : Exa Z h0 s "java/lang/String") (q8_F : Fld Z h0 s "java/lang/String" "value" "[B" (.ref cb)) (q9_F : Fld Z h0 s "java/lang/String" "coder" "B" (.int (0 : Int32))) (q10_E : Exa Z h0 c "java/lang/String") (q11_F : Fld Z h0 c "java/lang/String" "value" "[B" (.ref cb)) (q12_F : Fld Z h0 c "java/lang/String" "coder" "B" (.int (0 : Int32))) (q13_A : Arv Z h0 cb kb .byte (0 : Int32) [] (.int 0)) (hin : ("java/lang/String", 7, c) ∈ Lt) :
    Met l Z (⟨"com/example/strict_crosswalk/strictcrosswalk/forms/Doi", "caseFolded", "(Ljava/lang/String;)Ljava/lang/String;"⟩ : MethodName) prog_16_method_5_code 3 (some (.object "java/lang/String")) true [] ({ frames := 6, cells := 2, slots := 8, locals := 85 } : Room) #[(.ref s)] h0 (true, Ts, Lt) (fun v h J' => ∃ (x : Addr), v = some (.ref x) ∧ h0.size ≤ x ∧ Z.heap.size ≤ x ∧ Keep h0 h [] ∧ Exa Z h c "java/lang/String" ∧ Fld Z h c "java/lang/String" "value" "[B" (.ref cb) ∧ Fld Z h c "java/lang/String" "coder" "B" (.int (0 : Int32)) ∧ Arv Z h cb kb .byte (0 : Int32) [] (.int 0) ∧ Exa Z h x "java/lang/String" ∧ Fld Z h x "java/lang/String" "value" "[B" (.ref cb) ∧ Fld Z h x "java/lang/String" "coder" "B" (.int (0 : Int32)) ∧ J' = (true, Ts, Lt)) := by
  refine Met.of_goes (Ls := #[.val (.ref s), .unset, .unset]) (by first | exact plainFor_of_name (by first | (simp [plainName, overriddenIn]; done) | decide +kernel) | decide +kernel) (fun m => by first | (simp [entryFrame, mkF, argsToLocals, Value.category]; done) | rfl) rfl (fun G hGl => ?_)
  subst hGl
  have SE373 : StrL Z h0 s cb [] := ⟨q7_E, q8_F, q9_F, kb, q13_A⟩
  refine Wlk.aloadN (pc' := 1) (v := (.ref s)) dc_prog_16_method_5_code_0 rfl rfl rfl ?_
  refine Wlk.callV (pc' := 4) (a := s) (x := (⟨"java/lang/String", "toCharArray", "()[C"⟩ : MethodName)) (C := "java/lang/String") (z := (⟨"java/lang/String", "toCharArray", "()[C"⟩ : MethodName)) (argsL := []) (st := []) (W := 0) dc_prog_16_method_5_code_1 (hw _ (List.mem_of_getElem? (i := 36) rfl)) (hw _ (List.mem_of_getElem? (i := 37) rfl)) (fun s q => notFace_of_selects (args := #[]) (mvT q (hw _ (List.mem_of_getElem? (i := 39) rfl)))) (hw _ (List.mem_of_getElem? (i := 39) rfl)) (hw _ (List.mem_of_getElem? (i := 38) rfl)) SE373.1 (hw _ (List.mem_of_getElem? (i := 5) rfl)) (hw _ (List.mem_of_getElem? (i := 40) rfl)) (by decide) pd_22 rfl (st_tca hw s cb [] sf zc h0 q0_Sta q1_Sta q2_Sta q3_Sta hsf q5_Sta P3 (SE373.any rfl) (by first | exact hn | omega | exact Nat.le_of_ble_eq_true rfl) (fun c hc => nomatch hc)) (by decide) rfl (by decide) (by decide) (by decide) rfl rfl (fun v374 h375 J376 q377 => ?_)
  obtain ⟨a378, ka379, rfl, le380, g381, K382, n383⟩ := q377
  have A384 : Arv Z h375 a378 ka379 .char (0 : Int32) [] (.int 0) := n383
  show Wlk _ _ _ _ _ _ _ _ _ h375 1 4 4 #[.val (.ref s), .unset, .unset] [(.ref a378)]
  refine Wlk.astoreN (pc' := 5) (Ls' := #[.val (.ref s), .val (.ref a378), .unset]) dc_prog_16_method_5_code_4 rfl rfl rfl rfl ?_
  refine Wlk.iconst (pc' := 6) (v := (0 : Int32)) dc_prog_16_method_5_code_5 rfl rfl ?_
  refine Wlk.istoreN (pc' := 7) (Ls' := #[.val (.ref s), .val (.ref a378), .val (.int (0 : Int32))]) dc_prog_16_method_5_code_6 rfl rfl rfl ?_
  refine Wlk.iloadN (pc' := 8) (v := (0 : Int32)) dc_prog_16_method_5_code_7 rfl rfl ?_
  refine Wlk.aloadN (pc' := 9) (v := (.ref a378)) dc_prog_16_method_5_code_8 rfl rfl rfl ?_
  refine Wlk.arraylength (pc' := 10) dc_prog_16_method_5_code_9 A384 rfl ?_
  refine Wlk.icT (pc' := 48) dc_prog_16_method_5_code_10 (by decide) (by decide) (show ¬ ((0 : Int32) < (0 : Int32)) from by decide) ?_
  refine Wlk.newO (pc' := 51) (C := "java/lang/String") dc_prog_16_method_5_code_48 (hw _ (List.mem_of_getElem? (i := 53) rfl)) (hw _ (List.mem_of_getElem? (i := 4) rfl)) (hw _ (List.mem_of_getElem? (i := 5) rfl)) (by decide) (by decide) rfl (fun b385 h386 le387 g388 E389 A390 D391 => ?_)
  have F392 : Fld Z h386 b385 "java/lang/String" "coder" "B" (.int (0 : Int32)) := D391 (Or.inr (hw _ (List.mem_of_getElem? (i := 29) rfl))) (ty := .byte) (by decide)
  have F393 : Fld Z h386 b385 "java/lang/String" "value" "[B" .null := D391 (Or.inr (hw _ (List.mem_of_getElem? (i := 31) rfl))) (ty := (.array .byte)) (by decide)
  refine Wlk.dup (pc' := 52) dc_prog_16_method_5_code_51 rfl rfl ?_
  refine Wlk.aloadN (pc' := 53) (v := (.ref a378)) dc_prog_16_method_5_code_52 rfl rfl rfl ?_
  have c394 := (A384.ext E389)
  have c395 := ((q10_E.keep K382).ext E389)
  have c396 := ((q11_F.keep K382 nin0).ext E389)
  have c397 := ((q12_F.keep K382 nin0).ext E389)
  have c398 := ((q13_A.keep K382 nin0).ext E389)
  refine Wlk.callCw (pc' := 56) (a := b385) (z := (⟨"java/lang/String", "<init>", "([C)V"⟩ : MethodName)) (argsL := [(.ref a378)]) (st := [(.ref b385)]) (W := 1) dc_prog_16_method_5_code_53 (hw _ (List.mem_of_getElem? (i := 54) rfl)) (hw _ (List.mem_of_getElem? (i := 7) rfl)) (hw _ (List.mem_of_getElem? (i := 5) rfl)) (hw _ (List.mem_of_getElem? (i := 8) rfl)) (by decide) rfl pd_23 rfl (st_emp1w hw b385 a378 (.int (0 : Int32)) ka379 [] (.int 0) c cb kb Ts Lt h386 A390 F393 F392 g388 c394 c395 c396 c397 c398 (Nat.ne_of_lt (Nat.lt_of_lt_of_le q10_E.lt (Nat.le_trans K382.1 le387))) (Nat.ne_of_lt (Nat.lt_of_lt_of_le q13_A.lt (Nat.le_trans K382.1 le387))) (by first | exact hin | simp)) (by decide) rfl (by decide) (by decide) (by decide) rfl rfl (fun v399 h400 J401 q402 => ?_)
  obtain ⟨rfl, K403, n404, n405, n406, n407, n408, n409, n410, rfl⟩ := q402
  show Wlk _ _ _ _ _ _ _ _ _ h400 2 8 56 #[.val (.ref s), .val (.ref a378), .val (.int (0 : Int32))] [(.ref b385)]
  refine Wlk.areturn (t := (.object "java/lang/String")) dc_prog_16_method_5_code_56 rfl rfl rfl rfl (by decide) (by decide) ?_
  exact ⟨b385, rfl, (Nat.le_trans K382.1 le387), g388, ((((Keep.refl h0 []).trans K382 all0).ext E389).trans K403 (allS (Or.inr (Nat.le_trans K382.1 le387)) all0)), n404, n405, n406, n407, n408, n409, n410, rfl⟩

set_option maxRecDepth 65536 in
set_option maxHeartbeats 40000000 in
theorem rm_law {l : Launch} {Z : State} {a0 : Array Value} (hw : ∀ d ∈ tables_1, d.before a0 Z = true) (ws : List Jvm.Cond) (p1 p2 p3 : Int32) (h0 : Heap) (zc : Int32) (O2 : Sta Z Z.heap "java/lang/String" "COMPACT_STRINGS" "Z" (.int zc)) (P3 : ¬ zc = 0) (q0_Sta : Sta Z Z.heap "java/lang/StringUTF16" "$assertionsDisabled" "Z" (.int (1 : Int32))) (q1_Sta : Sta Z Z.heap "java/lang/StringUTF16" "HI_BYTE_SHIFT" "I" (.int (0 : Int32))) (q2_Sta : Sta Z Z.heap "java/lang/StringUTF16" "LO_BYTE_SHIFT" "I" (.int (8 : Int32))) (sf : Value) (SFO : Sta Z Z.heap "jdk/internal/util/Preconditions" "SIOOBE_FORMATTER" "Ljava/util/function/BiFunction;" sf) (hsf : sf.isRef = true) (wS : ∀ a ∈ Bundle.stringAtoms, a.before a0 Z = true) (hcw : Jvm.Lit.compactW.before a0 Z = true) (hh_7 : Jvm.Lit.constHeld Z "java/lang/String" 7) :
    Met l Z x code maxLocals ret true ws room_1 #[(.int p1), (.int p2), (.int p3)] h0 (true, [], []) (fun v h J => v = some (.int 1)) := by
  refine Met.of_goes (Ls := #[.val (.int p1), .val (.int p2), .val (.int p3), .unset, .unset, .unset]) (by first | exact plainFor_of_name (by first | (simp [plainName, overriddenIn]; done) | decide +kernel) | decide +kernel) (fun m => by first | (simp [entryFrame, mkF, argsToLocals, Value.category, maxLocals]; done) | rfl) rfl (fun G hGl => ?_)
  subst hGl
  refine Wlk.iloadN (pc' := 1) (v := p3) at_0 rfl rfl ?_
  refine Wlk.ldcI (pc' := 3) (v := (2147483647 : Int32)) at_1 (hw _ (List.mem_of_getElem? (i := 0) rfl)) rfl ?_
  refine Wlk.iand (pc' := 4) at_3 rfl ?_
  refine Wlk.iconst (pc' := 5) (v := (5 : Int32)) at_4 rfl rfl ?_
  refine Wlk.irem (pc' := 6) at_5 (by decide) rfl ?_
  obtain ⟨n, e_n⟩ : ∃ z, z = ((p3 &&& (2147483647 : Int32)) % (5 : Int32)) := ⟨_, rfl⟩
  rw [← e_n]
  have hn := own_lt5 (e_n ▸ own_mod p3 5 5 (by decide) (by decide))
  clear e_n
  rcases hn with rfl | rfl | rfl | rfl | rfl
  · skip
    refine Wlk.istoreN (pc' := 7) (Ls' := #[.val (.int p1), .val (.int p2), .val (.int p3), .val (.int (0 : Int32)), .unset, .unset]) at_6 rfl rfl rfl ?_
    refine Wlk.iloadN (pc' := 8) (v := (0 : Int32)) at_7 rfl rfl ?_
    refine Wlk.newP (pc' := 10) (ty := .char) (cap := 0) at_8 rfl (hw _ (List.mem_of_getElem? (i := 1) rfl)) (by decide) (by decide) (by decide) (by decide) (by decide) rfl (fun b411 h412 kc413 le414 g415 E416 A417 => ?_)
    have A418 : Arv Z h412 b411 kc413 .char (0 : Int32) [] (.int 0) := A417.pad (pad_rep [] (.int 0) 0)
    refine Wlk.astore (pc' := 12) (Ls' := #[.val (.int p1), .val (.int p2), .val (.int p3), .val (.int (0 : Int32)), .val (.ref b411), .unset]) at_10 rfl rfl rfl rfl ?_
    refine Wlk.iloadN (pc' := 13) (v := (0 : Int32)) at_12 rfl rfl ?_
    refine Wlk.ifT (pc' := 25) at_13 (by decide) (by decide) (show ¬ ((0 : Int32) < (0 : Int32)) from by decide) ?_
    refine Wlk.iloadN (pc' := 26) (v := (0 : Int32)) at_25 rfl rfl ?_
    refine Wlk.iconst (pc' := 27) (v := (1 : Int32)) at_26 rfl rfl ?_
    refine Wlk.icT (pc' := 39) at_27 (by decide) (by decide) (show ¬ ((1 : Int32) < (0 : Int32)) from by decide) ?_
    refine Wlk.iloadN (pc' := 40) (v := (0 : Int32)) at_39 rfl rfl ?_
    refine Wlk.iconst (pc' := 41) (v := (2 : Int32)) at_40 rfl rfl ?_
    refine Wlk.icT (pc' := 53) at_41 (by decide) (by decide) (show ¬ ((2 : Int32) < (0 : Int32)) from by decide) ?_
    refine Wlk.iloadN (pc' := 54) (v := (0 : Int32)) at_53 rfl rfl ?_
    refine Wlk.iconst (pc' := 55) (v := (3 : Int32)) at_54 rfl rfl ?_
    refine Wlk.icT (pc' := 67) at_55 (by decide) (by decide) (show ¬ ((3 : Int32) < (0 : Int32)) from by decide) ?_
    refine Wlk.newO (pc' := 70) (C := "java/lang/String") at_67 (hw _ (List.mem_of_getElem? (i := 3) rfl)) (hw _ (List.mem_of_getElem? (i := 4) rfl)) (hw _ (List.mem_of_getElem? (i := 5) rfl)) (by decide) (by decide) rfl (fun b419 h420 le421 g422 E423 A424 D425 => ?_)
    have F426 : Fld Z h420 b419 "java/lang/String" "coder" "B" (.int (0 : Int32)) := D425 (Or.inr (hw _ (List.mem_of_getElem? (i := 29) rfl))) (ty := .byte) (by decide)
    have F427 : Fld Z h420 b419 "java/lang/String" "value" "[B" .null := D425 (Or.inr (hw _ (List.mem_of_getElem? (i := 31) rfl))) (ty := (.array .byte)) (by decide)
    refine Wlk.dup (pc' := 71) at_70 rfl rfl ?_
    refine Wlk.aload (pc' := 73) (v := (.ref b411)) at_71 rfl rfl rfl ?_
    have c428 := (A418.ext E423)
    refine Wlk.callCw (pc' := 76) (a := b419) (z := (⟨"java/lang/String", "<init>", "([C)V"⟩ : MethodName)) (argsL := [(.ref b411)]) (st := [(.ref b419)]) (W := 1) at_73 (hw _ (List.mem_of_getElem? (i := 6) rfl)) (hw _ (List.mem_of_getElem? (i := 7) rfl)) (hw _ (List.mem_of_getElem? (i := 5) rfl)) (hw _ (List.mem_of_getElem? (i := 8) rfl)) (by decide) rfl pd_23 rfl (st_emp1c hw b419 b411 (.int (0 : Int32)) kc413 [] (.int 0) [] [] h420 A424 F427 F426 g422 c428 wS hcw hh_7 (by first | exact hnT | decide)) (by decide) rfl (by decide) (by decide) (by decide) rfl rfl (fun v429 h430 J431 q432 => ?_)
    obtain ⟨c433, cb434, kb435, rfl, K436, n437, n438, n439, n440, n441, n442, n443, rfl⟩ := q432
    show Wlk _ _ _ _ _ _ _ _ _ h430 4 8 76 #[.val (.int p1), .val (.int p2), .val (.int p3), .val (.int (0 : Int32)), .val (.ref b411), .unset] [(.ref b419)]
    refine Wlk.callSw (pc' := 79) (z := (⟨"com/example/strict_crosswalk/strictcrosswalk/forms/Doi", "caseFolded", "(Ljava/lang/String;)Ljava/lang/String;"⟩ : MethodName)) (argsL := [(.ref b419)]) (st := []) (W := 0) at_76 (hw _ (List.mem_of_getElem? (i := 32) rfl)) (hw _ (List.mem_of_getElem? (i := 33) rfl)) (hw _ (List.mem_of_getElem? (i := 34) rfl)) (hw _ (List.mem_of_getElem? (i := 35) rfl)) (by decide) pd_24 rfl (rm_cf0 hw b419 c433 cb434 kb435 sf zc ("" :: []) (("java/lang/String", 7, c433) :: []) h430 q0_Sta q1_Sta q2_Sta SFO hsf O2 P3 n441 n442 n443 n437 n438 n439 n440 (by first | exact hin | simp)) (by decide) rfl (by decide) (by decide) (by decide) rfl rfl (fun v444 h445 J446 q447 => ?_)
    obtain ⟨x448, rfl, le449, g450, K451, n452, n453, n454, n455, n456, n457, n458, rfl⟩ := q447
    show Wlk _ _ _ _ _ _ _ _ _ h445 6 16 79 #[.val (.int p1), .val (.int p2), .val (.int p3), .val (.int (0 : Int32)), .val (.ref b411), .unset] [(.ref x448)]
    refine Wlk.astore (pc' := 81) (Ls' := #[.val (.int p1), .val (.int p2), .val (.int p3), .val (.int (0 : Int32)), .val (.ref b411), .val (.ref x448)]) at_79 rfl rfl rfl rfl ?_
    refine Wlk.aload (pc' := 83) (v := (.ref x448)) at_81 rfl rfl rfl ?_
    have SE459 : StrL Z h445 x448 cb434 [] := ⟨n456, n457, n458, kb435, n455⟩
    refine Wlk.callV (pc' := 86) (a := x448) (x := (⟨"java/lang/String", "length", "()I"⟩ : MethodName)) (C := "java/lang/String") (z := (⟨"java/lang/String", "length", "()I"⟩ : MethodName)) (argsL := []) (st := []) (W := 0) at_83 (hw _ (List.mem_of_getElem? (i := 55) rfl)) (hw _ (List.mem_of_getElem? (i := 56) rfl)) (fun s q => notFace_of_selects (args := #[]) (mvT q (hw _ (List.mem_of_getElem? (i := 58) rfl)))) (hw _ (List.mem_of_getElem? (i := 58) rfl)) (hw _ (List.mem_of_getElem? (i := 57) rfl)) SE459.1 (hw _ (List.mem_of_getElem? (i := 5) rfl)) (hw _ (List.mem_of_getElem? (i := 59) rfl)) (by decide) pd_25 rfl (st_len hw x448 cb434 [] zc h445 O2 P3 (SE459.any rfl) (by first | exact hn | omega | exact Nat.le_of_ble_eq_true rfl)) (by decide) rfl (by decide) (by decide) (by decide) rfl rfl (fun v460 h461 J462 q463 => ?_)
    obtain ⟨rfl, rfl⟩ := q463
    show Wlk _ _ _ _ _ _ _ _ _ h445 6 16 86 #[.val (.int p1), .val (.int p2), .val (.int p3), .val (.int (0 : Int32)), .val (.ref b411), .val (.ref x448)] [(.int (Int32.ofNat [].length))]
    refine Wlk.iloadN (pc' := 87) (v := (0 : Int32)) at_86 rfl rfl ?_
    refine Wlk.icT (pc' := 92) at_87 (by decide) (by decide) (show (Int32.ofNat [].length) = (0 : Int32) from rfl) ?_
    refine Wlk.aload (pc' := 94) (v := (.ref x448)) at_92 rfl rfl rfl ?_
    refine Wlk.aload (pc' := 96) (v := (.ref b411)) at_94 rfl rfl rfl ?_
    refine Wlk.iconst (pc' := 97) (v := (0 : Int32)) at_96 rfl rfl ?_
    have c464 := ((c428.keep K436 (ninS (Nat.ne_of_lt (Nat.lt_of_lt_of_le A418.lt (Nat.le_trans (Nat.le_refl _) le421))) nin0)).keep K451 nin0)
    refine Wlk.callS (pc' := 100) (z := (⟨"com/example/strict_crosswalk/strictcrosswalk/forms/DoiCaseFoldedPinLaw", "at", "(Ljava/lang/String;[CI)Z"⟩ : MethodName)) (argsL := [(.ref x448), (.ref b411), (.int (0 : Int32))]) (st := []) (W := 0) at_97 (hw _ (List.mem_of_getElem? (i := 65) rfl)) (hw _ (List.mem_of_getElem? (i := 66) rfl)) (hw _ (List.mem_of_getElem? (i := 67) rfl)) (hw _ (List.mem_of_getElem? (i := 68) rfl)) (by decide) pd_26 rfl (rm_at0 hw x448 b411 kc413 (0 : Int32) [] (.int 0) (0 : Int32) h445 c464 (by decide)) (by decide) rfl (by decide) (by decide) (by decide) rfl rfl (fun v465 h466 J467 q468 => ?_)
    obtain ⟨rfl, rfl⟩ := q468
    show Wlk _ _ _ _ _ _ _ _ _ h445 6 16 100 #[.val (.int p1), .val (.int p2), .val (.int p3), .val (.int (0 : Int32)), .val (.ref b411), .val (.ref x448)] [(.int (1 : Int32))]
    refine Wlk.ifF (pc' := 103) at_100 (show ¬ ((1 : Int32) = (0 : Int32)) from by decide) rfl ?_
    refine Wlk.aload (pc' := 105) (v := (.ref x448)) at_103 rfl rfl rfl ?_
    refine Wlk.aload (pc' := 107) (v := (.ref b411)) at_105 rfl rfl rfl ?_
    refine Wlk.iconst (pc' := 108) (v := (1 : Int32)) at_107 rfl rfl ?_
    refine Wlk.callS (pc' := 111) (z := (⟨"com/example/strict_crosswalk/strictcrosswalk/forms/DoiCaseFoldedPinLaw", "at", "(Ljava/lang/String;[CI)Z"⟩ : MethodName)) (argsL := [(.ref x448), (.ref b411), (.int (1 : Int32))]) (st := []) (W := 0) at_108 (hw _ (List.mem_of_getElem? (i := 65) rfl)) (hw _ (List.mem_of_getElem? (i := 66) rfl)) (hw _ (List.mem_of_getElem? (i := 67) rfl)) (hw _ (List.mem_of_getElem? (i := 68) rfl)) (by decide) pd_26 rfl (rm_at0 hw x448 b411 kc413 (0 : Int32) [] (.int 0) (1 : Int32) h445 c464 (by decide)) (by decide) rfl (by decide) (by decide) (by decide) rfl rfl (fun v469 h470 J471 q472 => ?_)
    obtain ⟨rfl, rfl⟩ := q472
    show Wlk _ _ _ _ _ _ _ _ _ h445 6 16 111 #[.val (.int p1), .val (.int p2), .val (.int p3), .val (.int (0 : Int32)), .val (.ref b411), .val (.ref x448)] [(.int (1 : Int32))]
    refine Wlk.ifF (pc' := 114) at_111 (show ¬ ((1 : Int32) = (0 : Int32)) from by decide) rfl ?_
    refine Wlk.aload (pc' := 116) (v := (.ref x448)) at_114 rfl rfl rfl ?_
    refine Wlk.aload (pc' := 118) (v := (.ref b411)) at_116 rfl rfl rfl ?_
    refine Wlk.iconst (pc' := 119) (v := (2 : Int32)) at_118 rfl rfl ?_
    refine Wlk.callS (pc' := 122) (z := (⟨"com/example/strict_crosswalk/strictcrosswalk/forms/DoiCaseFoldedPinLaw", "at", "(Ljava/lang/String;[CI)Z"⟩ : MethodName)) (argsL := [(.ref x448), (.ref b411), (.int (2 : Int32))]) (st := []) (W := 0) at_119 (hw _ (List.mem_of_getElem? (i := 65) rfl)) (hw _ (List.mem_of_getElem? (i := 66) rfl)) (hw _ (List.mem_of_getElem? (i := 67) rfl)) (hw _ (List.mem_of_getElem? (i := 68) rfl)) (by decide) pd_26 rfl (rm_at0 hw x448 b411 kc413 (0 : Int32) [] (.int 0) (2 : Int32) h445 c464 (by decide)) (by decide) rfl (by decide) (by decide) (by decide) rfl rfl (fun v473 h474 J475 q476 => ?_)
    obtain ⟨rfl, rfl⟩ := q476
    show Wlk _ _ _ _ _ _ _ _ _ h445 6 16 122 #[.val (.int p1), .val (.int p2), .val (.int p3), .val (.int (0 : Int32)), .val (.ref b411), .val (.ref x448)] [(.int (1 : Int32))]
    refine Wlk.ifF (pc' := 125) at_122 (show ¬ ((1 : Int32) = (0 : Int32)) from by decide) rfl ?_
    refine Wlk.aload (pc' := 127) (v := (.ref x448)) at_125 rfl rfl rfl ?_
    refine Wlk.aload (pc' := 129) (v := (.ref b411)) at_127 rfl rfl rfl ?_
    refine Wlk.iconst (pc' := 130) (v := (3 : Int32)) at_129 rfl rfl ?_
    refine Wlk.callS (pc' := 133) (z := (⟨"com/example/strict_crosswalk/strictcrosswalk/forms/DoiCaseFoldedPinLaw", "at", "(Ljava/lang/String;[CI)Z"⟩ : MethodName)) (argsL := [(.ref x448), (.ref b411), (.int (3 : Int32))]) (st := []) (W := 0) at_130 (hw _ (List.mem_of_getElem? (i := 65) rfl)) (hw _ (List.mem_of_getElem? (i := 66) rfl)) (hw _ (List.mem_of_getElem? (i := 67) rfl)) (hw _ (List.mem_of_getElem? (i := 68) rfl)) (by decide) pd_26 rfl (rm_at0 hw x448 b411 kc413 (0 : Int32) [] (.int 0) (3 : Int32) h445 c464 (by decide)) (by decide) rfl (by decide) (by decide) (by decide) rfl rfl (fun v477 h478 J479 q480 => ?_)
    obtain ⟨rfl, rfl⟩ := q480
    show Wlk _ _ _ _ _ _ _ _ _ h445 6 16 133 #[.val (.int p1), .val (.int p2), .val (.int p3), .val (.int (0 : Int32)), .val (.ref b411), .val (.ref x448)] [(.int (1 : Int32))]
    refine Wlk.ifF (pc' := 136) at_133 (show ¬ ((1 : Int32) = (0 : Int32)) from by decide) rfl ?_
    refine Wlk.iconst (pc' := 137) (v := (1 : Int32)) at_136 rfl rfl ?_
    refine Wlk.goto (pc' := 141) at_137 (by decide) (by decide) ?_
    refine Wlk.ireturnN (t := .boolean) at_141 rfl (by simp) (by decide) (by decide) ?_
    exact rfl
  · skip
    refine Wlk.istoreN (pc' := 7) (Ls' := #[.val (.int p1), .val (.int p2), .val (.int p3), .val (.int (1 : Int32)), .unset, .unset]) at_6 rfl rfl rfl ?_
    refine Wlk.iloadN (pc' := 8) (v := (1 : Int32)) at_7 rfl rfl ?_
    refine Wlk.newP (pc' := 10) (ty := .char) (cap := 1) at_8 rfl (hw _ (List.mem_of_getElem? (i := 1) rfl)) (by decide) (by decide) (by decide) (by decide) (by decide) rfl (fun b481 h482 kc483 le484 g485 E486 A487 => ?_)
    have A488 : Arv Z h482 b481 kc483 .char (1 : Int32) [.int 0] (.int 0) := A487.pad (pad_rep [] (.int 0) 1)
    refine Wlk.astore (pc' := 12) (Ls' := #[.val (.int p1), .val (.int p2), .val (.int p3), .val (.int (1 : Int32)), .val (.ref b481), .unset]) at_10 rfl rfl rfl rfl ?_
    refine Wlk.iloadN (pc' := 13) (v := (1 : Int32)) at_12 rfl rfl ?_
    refine Wlk.ifF (pc' := 16) at_13 (show (0 : Int32) < (1 : Int32) from by decide) rfl ?_
    refine Wlk.aload (pc' := 18) (v := (.ref b481)) at_16 rfl rfl rfl ?_
    refine Wlk.iconst (pc' := 19) (v := (0 : Int32)) at_18 rfl rfl ?_
    refine Wlk.iloadN (pc' := 20) (v := p1) at_19 rfl rfl ?_
    refine Wlk.ldcI (pc' := 22) (v := (65535 : Int32)) at_20 (hw _ (List.mem_of_getElem? (i := 2) rfl)) rfl ?_
    refine Wlk.iand (pc' := 23) at_22 rfl ?_
    refine Wlk.i2c (pc' := 24) at_23 rfl ?_
    obtain ⟨z489, e_z489, r0_z489, r1_z489⟩ : ∃ z, z = (((p1 &&& (65535 : Int32))).toUInt32.toUInt16.toUInt32.toInt32) ∧ ¬ z < 0 ∧ ¬ (65535 : Int32) < z := ⟨_, rfl, (own_i2c _).1, (own_i2c _).2⟩
    rw [← e_z489]
    refine Wlk.castore (pc' := 25) (i := 0) at_24 A488 ⟨by decide, by decide⟩ rfl (Nat.le_of_ble_eq_true rfl) g485 rfl (fun h490 W491 A492 => ?_)
    rw [nar_char r0_z489 r1_z489] at A492
    have A493 : Arv Z h490 b481 kc483 .char (1 : Int32) [(.int z489)] (.int 0) := A492
    refine Wlk.iloadN (pc' := 26) (v := (1 : Int32)) at_25 rfl rfl ?_
    refine Wlk.iconst (pc' := 27) (v := (1 : Int32)) at_26 rfl rfl ?_
    refine Wlk.icT (pc' := 39) at_27 (by decide) (by decide) (show ¬ ((1 : Int32) < (1 : Int32)) from by decide) ?_
    refine Wlk.iloadN (pc' := 40) (v := (1 : Int32)) at_39 rfl rfl ?_
    refine Wlk.iconst (pc' := 41) (v := (2 : Int32)) at_40 rfl rfl ?_
    refine Wlk.icT (pc' := 53) at_41 (by decide) (by decide) (show ¬ ((2 : Int32) < (1 : Int32)) from by decide) ?_
    refine Wlk.iloadN (pc' := 54) (v := (1 : Int32)) at_53 rfl rfl ?_
    refine Wlk.iconst (pc' := 55) (v := (3 : Int32)) at_54 rfl rfl ?_
    refine Wlk.icT (pc' := 67) at_55 (by decide) (by decide) (show ¬ ((3 : Int32) < (1 : Int32)) from by decide) ?_
    refine Wlk.newO (pc' := 70) (C := "java/lang/String") at_67 (hw _ (List.mem_of_getElem? (i := 3) rfl)) (hw _ (List.mem_of_getElem? (i := 4) rfl)) (hw _ (List.mem_of_getElem? (i := 5) rfl)) (by decide) (by decide) rfl (fun b494 h495 le496 g497 E498 A499 D500 => ?_)
    have F501 : Fld Z h495 b494 "java/lang/String" "coder" "B" (.int (0 : Int32)) := D500 (Or.inr (hw _ (List.mem_of_getElem? (i := 29) rfl))) (ty := .byte) (by decide)
    have F502 : Fld Z h495 b494 "java/lang/String" "value" "[B" .null := D500 (Or.inr (hw _ (List.mem_of_getElem? (i := 31) rfl))) (ty := (.array .byte)) (by decide)
    refine Wlk.dup (pc' := 71) at_70 rfl rfl ?_
    refine Wlk.aload (pc' := 73) (v := (.ref b481)) at_71 rfl rfl rfl ?_
    have hR503 : ∀ c ∈ [z489], ¬ c < 0 ∧ ¬ (65535 : Int32) < c := by
      intro c hc
      simp only [List.mem_cons, List.not_mem_nil, or_false] at hc
      subst hc
      exact ⟨r0_z489, r1_z489⟩
    have c504 := (A493.ext E498)
    refine Wlk.callC (pc' := 76) (a := b494) (z := (⟨"java/lang/String", "<init>", "([C)V"⟩ : MethodName)) (argsL := [(.ref b481)]) (st := [(.ref b494)]) (W := 1) at_73 (hw _ (List.mem_of_getElem? (i := 6) rfl)) (hw _ (List.mem_of_getElem? (i := 7) rfl)) (hw _ (List.mem_of_getElem? (i := 5) rfl)) (hw _ (List.mem_of_getElem? (i := 8) rfl)) (by decide) rfl pd_23 rfl (st_ini1A hw b494 b481 .null (.int (0 : Int32)) kc483 [z489] (.int 0) zc h495 q0_Sta q1_Sta q2_Sta A499 F502 F501 g497 c504 O2 P3 (by first | exact hn | exact Nat.le_of_ble_eq_true rfl) (by first | exact hp | exact Nat.le_of_ble_eq_true rfl) hR503) (by decide) rfl (by decide) (by decide) (by decide) rfl rfl (fun v505 h506 J507 q508 => ?_)
    obtain ⟨t509, rfl, le510, g511, K512, n513⟩ := q508
    show Wlk _ _ _ _ _ _ _ _ _ h506 4 17 76 #[.val (.int p1), .val (.int p2), .val (.int p3), .val (.int (1 : Int32)), .val (.ref b481), .unset] [(.ref b494)]
    refine Wlk.callS (pc' := 79) (z := (⟨"com/example/strict_crosswalk/strictcrosswalk/forms/Doi", "caseFolded", "(Ljava/lang/String;)Ljava/lang/String;"⟩ : MethodName)) (argsL := [(.ref b494)]) (st := []) (W := 0) at_76 (hw _ (List.mem_of_getElem? (i := 32) rfl)) (hw _ (List.mem_of_getElem? (i := 33) rfl)) (hw _ (List.mem_of_getElem? (i := 34) rfl)) (hw _ (List.mem_of_getElem? (i := 35) rfl)) (by decide) pd_24 rfl (rm_cf hw b494 t509 [z489] sf zc h506 q0_Sta q1_Sta q2_Sta SFO hsf O2 P3 n513 (Nat.le_of_ble_eq_true rfl) (Nat.le_of_ble_eq_true rfl) hR503) (by decide) rfl (by decide) (by decide) (by decide) rfl rfl (fun v514 h515 J516 q517 => ?_)
    obtain ⟨x518, u519, rfl, le520, g521, le522, g523, K524, n525⟩ := q517
    show Wlk _ _ _ _ _ _ _ _ _ h515 8 37 79 #[.val (.int p1), .val (.int p2), .val (.int p3), .val (.int (1 : Int32)), .val (.ref b481), .unset] [(.ref x518)]
    refine Wlk.astore (pc' := 81) (Ls' := #[.val (.int p1), .val (.int p2), .val (.int p3), .val (.int (1 : Int32)), .val (.ref b481), .val (.ref x518)]) at_79 rfl rfl rfl rfl ?_
    refine Wlk.aload (pc' := 83) (v := (.ref x518)) at_81 rfl rfl rfl ?_
    refine Wlk.callV (pc' := 86) (a := x518) (x := (⟨"java/lang/String", "length", "()I"⟩ : MethodName)) (C := "java/lang/String") (z := (⟨"java/lang/String", "length", "()I"⟩ : MethodName)) (argsL := []) (st := []) (W := 0) at_83 (hw _ (List.mem_of_getElem? (i := 55) rfl)) (hw _ (List.mem_of_getElem? (i := 56) rfl)) (fun s q => notFace_of_selects (args := #[]) (mvT q (hw _ (List.mem_of_getElem? (i := 58) rfl)))) (hw _ (List.mem_of_getElem? (i := 58) rfl)) (hw _ (List.mem_of_getElem? (i := 57) rfl)) n525.exa (hw _ (List.mem_of_getElem? (i := 5) rfl)) (hw _ (List.mem_of_getElem? (i := 59) rfl)) (by decide) pd_25 rfl (st_len hw x518 u519 ([z489].map fo) zc h515 O2 P3 n525 (by first | exact hn | omega | exact Nat.le_of_ble_eq_true rfl)) (by decide) rfl (by decide) (by decide) (by decide) rfl rfl (fun v526 h527 J528 q529 => ?_)
    obtain ⟨rfl, rfl⟩ := q529
    show Wlk _ _ _ _ _ _ _ _ _ h515 8 37 86 #[.val (.int p1), .val (.int p2), .val (.int p3), .val (.int (1 : Int32)), .val (.ref b481), .val (.ref x518)] [(.int (Int32.ofNat ([z489].map fo).length))]
    refine Wlk.iloadN (pc' := 87) (v := (1 : Int32)) at_86 rfl rfl ?_
    refine Wlk.icT (pc' := 92) at_87 (by decide) (by decide) (show (Int32.ofNat ([z489].map fo).length) = (1 : Int32) from rfl) ?_
    refine Wlk.aload (pc' := 94) (v := (.ref x518)) at_92 rfl rfl rfl ?_
    refine Wlk.aload (pc' := 96) (v := (.ref b481)) at_94 rfl rfl rfl ?_
    refine Wlk.iconst (pc' := 97) (v := (0 : Int32)) at_96 rfl rfl ?_
    have c530 := ((c504.keep K512 (ninS (Nat.ne_of_lt (Nat.lt_of_lt_of_le A488.lt (Nat.le_trans (Nat.le_of_eq W491.size.symm) le496))) nin0)).keep K524 nin0)
    refine Wlk.callS (pc' := 100) (z := (⟨"com/example/strict_crosswalk/strictcrosswalk/forms/DoiCaseFoldedPinLaw", "at", "(Ljava/lang/String;[CI)Z"⟩ : MethodName)) (argsL := [(.ref x518), (.ref b481), (.int (0 : Int32))]) (st := []) (W := 0) at_97 (hw _ (List.mem_of_getElem? (i := 65) rfl)) (hw _ (List.mem_of_getElem? (i := 66) rfl)) (hw _ (List.mem_of_getElem? (i := 67) rfl)) (hw _ (List.mem_of_getElem? (i := 68) rfl)) (by decide) pd_26 rfl (rm_at hw x518 u519 b481 kc483 [z489] (.int 0) 0 z489 sf zc h515 q0_Sta q1_Sta q2_Sta SFO hsf O2 P3 n525 c530 (Nat.le_of_ble_eq_true rfl) (Nat.le_of_ble_eq_true rfl) rfl hR503) (by decide) rfl (by decide) (by decide) (by decide) rfl rfl (fun v531 h532 J533 q534 => ?_)
    obtain ⟨rfl, rfl⟩ := q534
    show Wlk _ _ _ _ _ _ _ _ _ h515 8 37 100 #[.val (.int p1), .val (.int p2), .val (.int p3), .val (.int (1 : Int32)), .val (.ref b481), .val (.ref x518)] [(.int (1 : Int32))]
    refine Wlk.ifF (pc' := 103) at_100 (show ¬ ((1 : Int32) = (0 : Int32)) from by decide) rfl ?_
    refine Wlk.aload (pc' := 105) (v := (.ref x518)) at_103 rfl rfl rfl ?_
    refine Wlk.aload (pc' := 107) (v := (.ref b481)) at_105 rfl rfl rfl ?_
    refine Wlk.iconst (pc' := 108) (v := (1 : Int32)) at_107 rfl rfl ?_
    refine Wlk.callS (pc' := 111) (z := (⟨"com/example/strict_crosswalk/strictcrosswalk/forms/DoiCaseFoldedPinLaw", "at", "(Ljava/lang/String;[CI)Z"⟩ : MethodName)) (argsL := [(.ref x518), (.ref b481), (.int (1 : Int32))]) (st := []) (W := 0) at_108 (hw _ (List.mem_of_getElem? (i := 65) rfl)) (hw _ (List.mem_of_getElem? (i := 66) rfl)) (hw _ (List.mem_of_getElem? (i := 67) rfl)) (hw _ (List.mem_of_getElem? (i := 68) rfl)) (by decide) pd_26 rfl (rm_at0 hw x518 b481 kc483 (1 : Int32) [(.int z489)] (.int 0) (1 : Int32) h515 c530 (by decide)) (by decide) rfl (by decide) (by decide) (by decide) rfl rfl (fun v535 h536 J537 q538 => ?_)
    obtain ⟨rfl, rfl⟩ := q538
    show Wlk _ _ _ _ _ _ _ _ _ h515 8 37 111 #[.val (.int p1), .val (.int p2), .val (.int p3), .val (.int (1 : Int32)), .val (.ref b481), .val (.ref x518)] [(.int (1 : Int32))]
    refine Wlk.ifF (pc' := 114) at_111 (show ¬ ((1 : Int32) = (0 : Int32)) from by decide) rfl ?_
    refine Wlk.aload (pc' := 116) (v := (.ref x518)) at_114 rfl rfl rfl ?_
    refine Wlk.aload (pc' := 118) (v := (.ref b481)) at_116 rfl rfl rfl ?_
    refine Wlk.iconst (pc' := 119) (v := (2 : Int32)) at_118 rfl rfl ?_
    refine Wlk.callS (pc' := 122) (z := (⟨"com/example/strict_crosswalk/strictcrosswalk/forms/DoiCaseFoldedPinLaw", "at", "(Ljava/lang/String;[CI)Z"⟩ : MethodName)) (argsL := [(.ref x518), (.ref b481), (.int (2 : Int32))]) (st := []) (W := 0) at_119 (hw _ (List.mem_of_getElem? (i := 65) rfl)) (hw _ (List.mem_of_getElem? (i := 66) rfl)) (hw _ (List.mem_of_getElem? (i := 67) rfl)) (hw _ (List.mem_of_getElem? (i := 68) rfl)) (by decide) pd_26 rfl (rm_at0 hw x518 b481 kc483 (1 : Int32) [(.int z489)] (.int 0) (2 : Int32) h515 c530 (by decide)) (by decide) rfl (by decide) (by decide) (by decide) rfl rfl (fun v539 h540 J541 q542 => ?_)
    obtain ⟨rfl, rfl⟩ := q542
    show Wlk _ _ _ _ _ _ _ _ _ h515 8 37 122 #[.val (.int p1), .val (.int p2), .val (.int p3), .val (.int (1 : Int32)), .val (.ref b481), .val (.ref x518)] [(.int (1 : Int32))]
    refine Wlk.ifF (pc' := 125) at_122 (show ¬ ((1 : Int32) = (0 : Int32)) from by decide) rfl ?_
    refine Wlk.aload (pc' := 127) (v := (.ref x518)) at_125 rfl rfl rfl ?_
    refine Wlk.aload (pc' := 129) (v := (.ref b481)) at_127 rfl rfl rfl ?_
    refine Wlk.iconst (pc' := 130) (v := (3 : Int32)) at_129 rfl rfl ?_
    refine Wlk.callS (pc' := 133) (z := (⟨"com/example/strict_crosswalk/strictcrosswalk/forms/DoiCaseFoldedPinLaw", "at", "(Ljava/lang/String;[CI)Z"⟩ : MethodName)) (argsL := [(.ref x518), (.ref b481), (.int (3 : Int32))]) (st := []) (W := 0) at_130 (hw _ (List.mem_of_getElem? (i := 65) rfl)) (hw _ (List.mem_of_getElem? (i := 66) rfl)) (hw _ (List.mem_of_getElem? (i := 67) rfl)) (hw _ (List.mem_of_getElem? (i := 68) rfl)) (by decide) pd_26 rfl (rm_at0 hw x518 b481 kc483 (1 : Int32) [(.int z489)] (.int 0) (3 : Int32) h515 c530 (by decide)) (by decide) rfl (by decide) (by decide) (by decide) rfl rfl (fun v543 h544 J545 q546 => ?_)
    obtain ⟨rfl, rfl⟩ := q546
    show Wlk _ _ _ _ _ _ _ _ _ h515 8 37 133 #[.val (.int p1), .val (.int p2), .val (.int p3), .val (.int (1 : Int32)), .val (.ref b481), .val (.ref x518)] [(.int (1 : Int32))]
    refine Wlk.ifF (pc' := 136) at_133 (show ¬ ((1 : Int32) = (0 : Int32)) from by decide) rfl ?_
    refine Wlk.iconst (pc' := 137) (v := (1 : Int32)) at_136 rfl rfl ?_
    refine Wlk.goto (pc' := 141) at_137 (by decide) (by decide) ?_
    refine Wlk.ireturnN (t := .boolean) at_141 rfl (by simp) (by decide) (by decide) ?_
    exact rfl
  · skip
    refine Wlk.istoreN (pc' := 7) (Ls' := #[.val (.int p1), .val (.int p2), .val (.int p3), .val (.int (2 : Int32)), .unset, .unset]) at_6 rfl rfl rfl ?_
    refine Wlk.iloadN (pc' := 8) (v := (2 : Int32)) at_7 rfl rfl ?_
    refine Wlk.newP (pc' := 10) (ty := .char) (cap := 2) at_8 rfl (hw _ (List.mem_of_getElem? (i := 1) rfl)) (by decide) (by decide) (by decide) (by decide) (by decide) rfl (fun b547 h548 kc549 le550 g551 E552 A553 => ?_)
    have A554 : Arv Z h548 b547 kc549 .char (2 : Int32) [.int 0, .int 0] (.int 0) := A553.pad (pad_rep [] (.int 0) 2)
    refine Wlk.astore (pc' := 12) (Ls' := #[.val (.int p1), .val (.int p2), .val (.int p3), .val (.int (2 : Int32)), .val (.ref b547), .unset]) at_10 rfl rfl rfl rfl ?_
    refine Wlk.iloadN (pc' := 13) (v := (2 : Int32)) at_12 rfl rfl ?_
    refine Wlk.ifF (pc' := 16) at_13 (show (0 : Int32) < (2 : Int32) from by decide) rfl ?_
    refine Wlk.aload (pc' := 18) (v := (.ref b547)) at_16 rfl rfl rfl ?_
    refine Wlk.iconst (pc' := 19) (v := (0 : Int32)) at_18 rfl rfl ?_
    refine Wlk.iloadN (pc' := 20) (v := p1) at_19 rfl rfl ?_
    refine Wlk.ldcI (pc' := 22) (v := (65535 : Int32)) at_20 (hw _ (List.mem_of_getElem? (i := 2) rfl)) rfl ?_
    refine Wlk.iand (pc' := 23) at_22 rfl ?_
    refine Wlk.i2c (pc' := 24) at_23 rfl ?_
    obtain ⟨z555, e_z555, r0_z555, r1_z555⟩ : ∃ z, z = (((p1 &&& (65535 : Int32))).toUInt32.toUInt16.toUInt32.toInt32) ∧ ¬ z < 0 ∧ ¬ (65535 : Int32) < z := ⟨_, rfl, (own_i2c _).1, (own_i2c _).2⟩
    rw [← e_z555]
    refine Wlk.castore (pc' := 25) (i := 0) at_24 A554 ⟨by decide, by decide⟩ rfl (Nat.le_of_ble_eq_true rfl) g551 rfl (fun h556 W557 A558 => ?_)
    rw [nar_char r0_z555 r1_z555] at A558
    have A559 : Arv Z h556 b547 kc549 .char (2 : Int32) [(.int z555), (.int (0 : Int32))] (.int 0) := A558
    refine Wlk.iloadN (pc' := 26) (v := (2 : Int32)) at_25 rfl rfl ?_
    refine Wlk.iconst (pc' := 27) (v := (1 : Int32)) at_26 rfl rfl ?_
    refine Wlk.icF (pc' := 30) at_27 (show (1 : Int32) < (2 : Int32) from by decide) rfl ?_
    refine Wlk.aload (pc' := 32) (v := (.ref b547)) at_30 rfl rfl rfl ?_
    refine Wlk.iconst (pc' := 33) (v := (1 : Int32)) at_32 rfl rfl ?_
    refine Wlk.iloadN (pc' := 34) (v := p1) at_33 rfl rfl ?_
    refine Wlk.bipush (pc' := 36) (v := (16 : Int32)) at_34 (by decide) rfl ?_
    refine Wlk.iushr (pc' := 37) at_36 rfl ?_
    refine Wlk.i2c (pc' := 38) at_37 rfl ?_
    obtain ⟨z560, e_z560, r0_z560, r1_z560⟩ : ∃ z, z = (((((p1).toUInt32 >>> ((16 : Int32) &&& 31).toUInt32).toInt32)).toUInt32.toUInt16.toUInt32.toInt32) ∧ ¬ z < 0 ∧ ¬ (65535 : Int32) < z := ⟨_, rfl, (own_i2c _).1, (own_i2c _).2⟩
    rw [← e_z560]
    refine Wlk.castore (pc' := 39) (i := 1) at_38 A559 ⟨by decide, by decide⟩ rfl (Nat.le_of_ble_eq_true rfl) g551 rfl (fun h561 W562 A563 => ?_)
    rw [nar_char r0_z560 r1_z560] at A563
    have A564 : Arv Z h561 b547 kc549 .char (2 : Int32) [(.int z555), (.int z560)] (.int 0) := A563
    refine Wlk.iloadN (pc' := 40) (v := (2 : Int32)) at_39 rfl rfl ?_
    refine Wlk.iconst (pc' := 41) (v := (2 : Int32)) at_40 rfl rfl ?_
    refine Wlk.icT (pc' := 53) at_41 (by decide) (by decide) (show ¬ ((2 : Int32) < (2 : Int32)) from by decide) ?_
    refine Wlk.iloadN (pc' := 54) (v := (2 : Int32)) at_53 rfl rfl ?_
    refine Wlk.iconst (pc' := 55) (v := (3 : Int32)) at_54 rfl rfl ?_
    refine Wlk.icT (pc' := 67) at_55 (by decide) (by decide) (show ¬ ((3 : Int32) < (2 : Int32)) from by decide) ?_
    refine Wlk.newO (pc' := 70) (C := "java/lang/String") at_67 (hw _ (List.mem_of_getElem? (i := 3) rfl)) (hw _ (List.mem_of_getElem? (i := 4) rfl)) (hw _ (List.mem_of_getElem? (i := 5) rfl)) (by decide) (by decide) rfl (fun b565 h566 le567 g568 E569 A570 D571 => ?_)
    have F572 : Fld Z h566 b565 "java/lang/String" "coder" "B" (.int (0 : Int32)) := D571 (Or.inr (hw _ (List.mem_of_getElem? (i := 29) rfl))) (ty := .byte) (by decide)
    have F573 : Fld Z h566 b565 "java/lang/String" "value" "[B" .null := D571 (Or.inr (hw _ (List.mem_of_getElem? (i := 31) rfl))) (ty := (.array .byte)) (by decide)
    refine Wlk.dup (pc' := 71) at_70 rfl rfl ?_
    refine Wlk.aload (pc' := 73) (v := (.ref b547)) at_71 rfl rfl rfl ?_
    have hR574 : ∀ c ∈ [z555, z560], ¬ c < 0 ∧ ¬ (65535 : Int32) < c := by
      intro c hc
      simp only [List.mem_cons, List.not_mem_nil, or_false] at hc
      rcases hc with hc | hc
      · rw [hc]; exact ⟨r0_z555, r1_z555⟩
      · rw [hc]; exact ⟨r0_z560, r1_z560⟩
    have c575 := (A564.ext E569)
    refine Wlk.callC (pc' := 76) (a := b565) (z := (⟨"java/lang/String", "<init>", "([C)V"⟩ : MethodName)) (argsL := [(.ref b547)]) (st := [(.ref b565)]) (W := 1) at_73 (hw _ (List.mem_of_getElem? (i := 6) rfl)) (hw _ (List.mem_of_getElem? (i := 7) rfl)) (hw _ (List.mem_of_getElem? (i := 5) rfl)) (hw _ (List.mem_of_getElem? (i := 8) rfl)) (by decide) rfl pd_23 rfl (st_ini1A hw b565 b547 .null (.int (0 : Int32)) kc549 [z555, z560] (.int 0) zc h566 q0_Sta q1_Sta q2_Sta A570 F573 F572 g568 c575 O2 P3 (by first | exact hn | exact Nat.le_of_ble_eq_true rfl) (by first | exact hp | exact Nat.le_of_ble_eq_true rfl) hR574) (by decide) rfl (by decide) (by decide) (by decide) rfl rfl (fun v576 h577 J578 q579 => ?_)
    obtain ⟨t580, rfl, le581, g582, K583, n584⟩ := q579
    show Wlk _ _ _ _ _ _ _ _ _ h577 4 18 76 #[.val (.int p1), .val (.int p2), .val (.int p3), .val (.int (2 : Int32)), .val (.ref b547), .unset] [(.ref b565)]
    refine Wlk.callS (pc' := 79) (z := (⟨"com/example/strict_crosswalk/strictcrosswalk/forms/Doi", "caseFolded", "(Ljava/lang/String;)Ljava/lang/String;"⟩ : MethodName)) (argsL := [(.ref b565)]) (st := []) (W := 0) at_76 (hw _ (List.mem_of_getElem? (i := 32) rfl)) (hw _ (List.mem_of_getElem? (i := 33) rfl)) (hw _ (List.mem_of_getElem? (i := 34) rfl)) (hw _ (List.mem_of_getElem? (i := 35) rfl)) (by decide) pd_24 rfl (rm_cf hw b565 t580 [z555, z560] sf zc h577 q0_Sta q1_Sta q2_Sta SFO hsf O2 P3 n584 (Nat.le_of_ble_eq_true rfl) (Nat.le_of_ble_eq_true rfl) hR574) (by decide) rfl (by decide) (by decide) (by decide) rfl rfl (fun v585 h586 J587 q588 => ?_)
    obtain ⟨x589, u590, rfl, le591, g592, le593, g594, K595, n596⟩ := q588
    show Wlk _ _ _ _ _ _ _ _ _ h586 8 38 79 #[.val (.int p1), .val (.int p2), .val (.int p3), .val (.int (2 : Int32)), .val (.ref b547), .unset] [(.ref x589)]
    refine Wlk.astore (pc' := 81) (Ls' := #[.val (.int p1), .val (.int p2), .val (.int p3), .val (.int (2 : Int32)), .val (.ref b547), .val (.ref x589)]) at_79 rfl rfl rfl rfl ?_
    refine Wlk.aload (pc' := 83) (v := (.ref x589)) at_81 rfl rfl rfl ?_
    refine Wlk.callV (pc' := 86) (a := x589) (x := (⟨"java/lang/String", "length", "()I"⟩ : MethodName)) (C := "java/lang/String") (z := (⟨"java/lang/String", "length", "()I"⟩ : MethodName)) (argsL := []) (st := []) (W := 0) at_83 (hw _ (List.mem_of_getElem? (i := 55) rfl)) (hw _ (List.mem_of_getElem? (i := 56) rfl)) (fun s q => notFace_of_selects (args := #[]) (mvT q (hw _ (List.mem_of_getElem? (i := 58) rfl)))) (hw _ (List.mem_of_getElem? (i := 58) rfl)) (hw _ (List.mem_of_getElem? (i := 57) rfl)) n596.exa (hw _ (List.mem_of_getElem? (i := 5) rfl)) (hw _ (List.mem_of_getElem? (i := 59) rfl)) (by decide) pd_25 rfl (st_len hw x589 u590 ([z555, z560].map fo) zc h586 O2 P3 n596 (by first | exact hn | omega | exact Nat.le_of_ble_eq_true rfl)) (by decide) rfl (by decide) (by decide) (by decide) rfl rfl (fun v597 h598 J599 q600 => ?_)
    obtain ⟨rfl, rfl⟩ := q600
    show Wlk _ _ _ _ _ _ _ _ _ h586 8 38 86 #[.val (.int p1), .val (.int p2), .val (.int p3), .val (.int (2 : Int32)), .val (.ref b547), .val (.ref x589)] [(.int (Int32.ofNat ([z555, z560].map fo).length))]
    refine Wlk.iloadN (pc' := 87) (v := (2 : Int32)) at_86 rfl rfl ?_
    refine Wlk.icT (pc' := 92) at_87 (by decide) (by decide) (show (Int32.ofNat ([z555, z560].map fo).length) = (2 : Int32) from rfl) ?_
    refine Wlk.aload (pc' := 94) (v := (.ref x589)) at_92 rfl rfl rfl ?_
    refine Wlk.aload (pc' := 96) (v := (.ref b547)) at_94 rfl rfl rfl ?_
    refine Wlk.iconst (pc' := 97) (v := (0 : Int32)) at_96 rfl rfl ?_
    have c601 := ((c575.keep K583 (ninS (Nat.ne_of_lt (Nat.lt_of_lt_of_le A554.lt (Nat.le_trans (Nat.le_trans (Nat.le_of_eq W557.size.symm) (Nat.le_of_eq W562.size.symm)) le567))) nin0)).keep K595 nin0)
    refine Wlk.callS (pc' := 100) (z := (⟨"com/example/strict_crosswalk/strictcrosswalk/forms/DoiCaseFoldedPinLaw", "at", "(Ljava/lang/String;[CI)Z"⟩ : MethodName)) (argsL := [(.ref x589), (.ref b547), (.int (0 : Int32))]) (st := []) (W := 0) at_97 (hw _ (List.mem_of_getElem? (i := 65) rfl)) (hw _ (List.mem_of_getElem? (i := 66) rfl)) (hw _ (List.mem_of_getElem? (i := 67) rfl)) (hw _ (List.mem_of_getElem? (i := 68) rfl)) (by decide) pd_26 rfl (rm_at hw x589 u590 b547 kc549 [z555, z560] (.int 0) 0 z555 sf zc h586 q0_Sta q1_Sta q2_Sta SFO hsf O2 P3 n596 c601 (Nat.le_of_ble_eq_true rfl) (Nat.le_of_ble_eq_true rfl) rfl hR574) (by decide) rfl (by decide) (by decide) (by decide) rfl rfl (fun v602 h603 J604 q605 => ?_)
    obtain ⟨rfl, rfl⟩ := q605
    show Wlk _ _ _ _ _ _ _ _ _ h586 8 38 100 #[.val (.int p1), .val (.int p2), .val (.int p3), .val (.int (2 : Int32)), .val (.ref b547), .val (.ref x589)] [(.int (1 : Int32))]
    refine Wlk.ifF (pc' := 103) at_100 (show ¬ ((1 : Int32) = (0 : Int32)) from by decide) rfl ?_
    refine Wlk.aload (pc' := 105) (v := (.ref x589)) at_103 rfl rfl rfl ?_
    refine Wlk.aload (pc' := 107) (v := (.ref b547)) at_105 rfl rfl rfl ?_
    refine Wlk.iconst (pc' := 108) (v := (1 : Int32)) at_107 rfl rfl ?_
    refine Wlk.callS (pc' := 111) (z := (⟨"com/example/strict_crosswalk/strictcrosswalk/forms/DoiCaseFoldedPinLaw", "at", "(Ljava/lang/String;[CI)Z"⟩ : MethodName)) (argsL := [(.ref x589), (.ref b547), (.int (1 : Int32))]) (st := []) (W := 0) at_108 (hw _ (List.mem_of_getElem? (i := 65) rfl)) (hw _ (List.mem_of_getElem? (i := 66) rfl)) (hw _ (List.mem_of_getElem? (i := 67) rfl)) (hw _ (List.mem_of_getElem? (i := 68) rfl)) (by decide) pd_26 rfl (rm_at hw x589 u590 b547 kc549 [z555, z560] (.int 0) 1 z560 sf zc h586 q0_Sta q1_Sta q2_Sta SFO hsf O2 P3 n596 c601 (Nat.le_of_ble_eq_true rfl) (Nat.le_of_ble_eq_true rfl) rfl hR574) (by decide) rfl (by decide) (by decide) (by decide) rfl rfl (fun v606 h607 J608 q609 => ?_)
    obtain ⟨rfl, rfl⟩ := q609
    show Wlk _ _ _ _ _ _ _ _ _ h586 8 38 111 #[.val (.int p1), .val (.int p2), .val (.int p3), .val (.int (2 : Int32)), .val (.ref b547), .val (.ref x589)] [(.int (1 : Int32))]
    refine Wlk.ifF (pc' := 114) at_111 (show ¬ ((1 : Int32) = (0 : Int32)) from by decide) rfl ?_
    refine Wlk.aload (pc' := 116) (v := (.ref x589)) at_114 rfl rfl rfl ?_
    refine Wlk.aload (pc' := 118) (v := (.ref b547)) at_116 rfl rfl rfl ?_
    refine Wlk.iconst (pc' := 119) (v := (2 : Int32)) at_118 rfl rfl ?_
    refine Wlk.callS (pc' := 122) (z := (⟨"com/example/strict_crosswalk/strictcrosswalk/forms/DoiCaseFoldedPinLaw", "at", "(Ljava/lang/String;[CI)Z"⟩ : MethodName)) (argsL := [(.ref x589), (.ref b547), (.int (2 : Int32))]) (st := []) (W := 0) at_119 (hw _ (List.mem_of_getElem? (i := 65) rfl)) (hw _ (List.mem_of_getElem? (i := 66) rfl)) (hw _ (List.mem_of_getElem? (i := 67) rfl)) (hw _ (List.mem_of_getElem? (i := 68) rfl)) (by decide) pd_26 rfl (rm_at0 hw x589 b547 kc549 (2 : Int32) [(.int z555), (.int z560)] (.int 0) (2 : Int32) h586 c601 (by decide)) (by decide) rfl (by decide) (by decide) (by decide) rfl rfl (fun v610 h611 J612 q613 => ?_)
    obtain ⟨rfl, rfl⟩ := q613
    show Wlk _ _ _ _ _ _ _ _ _ h586 8 38 122 #[.val (.int p1), .val (.int p2), .val (.int p3), .val (.int (2 : Int32)), .val (.ref b547), .val (.ref x589)] [(.int (1 : Int32))]
    refine Wlk.ifF (pc' := 125) at_122 (show ¬ ((1 : Int32) = (0 : Int32)) from by decide) rfl ?_
    refine Wlk.aload (pc' := 127) (v := (.ref x589)) at_125 rfl rfl rfl ?_
    refine Wlk.aload (pc' := 129) (v := (.ref b547)) at_127 rfl rfl rfl ?_
    refine Wlk.iconst (pc' := 130) (v := (3 : Int32)) at_129 rfl rfl ?_
    refine Wlk.callS (pc' := 133) (z := (⟨"com/example/strict_crosswalk/strictcrosswalk/forms/DoiCaseFoldedPinLaw", "at", "(Ljava/lang/String;[CI)Z"⟩ : MethodName)) (argsL := [(.ref x589), (.ref b547), (.int (3 : Int32))]) (st := []) (W := 0) at_130 (hw _ (List.mem_of_getElem? (i := 65) rfl)) (hw _ (List.mem_of_getElem? (i := 66) rfl)) (hw _ (List.mem_of_getElem? (i := 67) rfl)) (hw _ (List.mem_of_getElem? (i := 68) rfl)) (by decide) pd_26 rfl (rm_at0 hw x589 b547 kc549 (2 : Int32) [(.int z555), (.int z560)] (.int 0) (3 : Int32) h586 c601 (by decide)) (by decide) rfl (by decide) (by decide) (by decide) rfl rfl (fun v614 h615 J616 q617 => ?_)
    obtain ⟨rfl, rfl⟩ := q617
    show Wlk _ _ _ _ _ _ _ _ _ h586 8 38 133 #[.val (.int p1), .val (.int p2), .val (.int p3), .val (.int (2 : Int32)), .val (.ref b547), .val (.ref x589)] [(.int (1 : Int32))]
    refine Wlk.ifF (pc' := 136) at_133 (show ¬ ((1 : Int32) = (0 : Int32)) from by decide) rfl ?_
    refine Wlk.iconst (pc' := 137) (v := (1 : Int32)) at_136 rfl rfl ?_
    refine Wlk.goto (pc' := 141) at_137 (by decide) (by decide) ?_
    refine Wlk.ireturnN (t := .boolean) at_141 rfl (by simp) (by decide) (by decide) ?_
    exact rfl
  · skip
    refine Wlk.istoreN (pc' := 7) (Ls' := #[.val (.int p1), .val (.int p2), .val (.int p3), .val (.int (3 : Int32)), .unset, .unset]) at_6 rfl rfl rfl ?_
    refine Wlk.iloadN (pc' := 8) (v := (3 : Int32)) at_7 rfl rfl ?_
    refine Wlk.newP (pc' := 10) (ty := .char) (cap := 3) at_8 rfl (hw _ (List.mem_of_getElem? (i := 1) rfl)) (by decide) (by decide) (by decide) (by decide) (by decide) rfl (fun b618 h619 kc620 le621 g622 E623 A624 => ?_)
    have A625 : Arv Z h619 b618 kc620 .char (3 : Int32) [.int 0, .int 0, .int 0] (.int 0) := A624.pad (pad_rep [] (.int 0) 3)
    refine Wlk.astore (pc' := 12) (Ls' := #[.val (.int p1), .val (.int p2), .val (.int p3), .val (.int (3 : Int32)), .val (.ref b618), .unset]) at_10 rfl rfl rfl rfl ?_
    refine Wlk.iloadN (pc' := 13) (v := (3 : Int32)) at_12 rfl rfl ?_
    refine Wlk.ifF (pc' := 16) at_13 (show (0 : Int32) < (3 : Int32) from by decide) rfl ?_
    refine Wlk.aload (pc' := 18) (v := (.ref b618)) at_16 rfl rfl rfl ?_
    refine Wlk.iconst (pc' := 19) (v := (0 : Int32)) at_18 rfl rfl ?_
    refine Wlk.iloadN (pc' := 20) (v := p1) at_19 rfl rfl ?_
    refine Wlk.ldcI (pc' := 22) (v := (65535 : Int32)) at_20 (hw _ (List.mem_of_getElem? (i := 2) rfl)) rfl ?_
    refine Wlk.iand (pc' := 23) at_22 rfl ?_
    refine Wlk.i2c (pc' := 24) at_23 rfl ?_
    obtain ⟨z626, e_z626, r0_z626, r1_z626⟩ : ∃ z, z = (((p1 &&& (65535 : Int32))).toUInt32.toUInt16.toUInt32.toInt32) ∧ ¬ z < 0 ∧ ¬ (65535 : Int32) < z := ⟨_, rfl, (own_i2c _).1, (own_i2c _).2⟩
    rw [← e_z626]
    refine Wlk.castore (pc' := 25) (i := 0) at_24 A625 ⟨by decide, by decide⟩ rfl (Nat.le_of_ble_eq_true rfl) g622 rfl (fun h627 W628 A629 => ?_)
    rw [nar_char r0_z626 r1_z626] at A629
    have A630 : Arv Z h627 b618 kc620 .char (3 : Int32) [(.int z626), (.int (0 : Int32)), (.int (0 : Int32))] (.int 0) := A629
    refine Wlk.iloadN (pc' := 26) (v := (3 : Int32)) at_25 rfl rfl ?_
    refine Wlk.iconst (pc' := 27) (v := (1 : Int32)) at_26 rfl rfl ?_
    refine Wlk.icF (pc' := 30) at_27 (show (1 : Int32) < (3 : Int32) from by decide) rfl ?_
    refine Wlk.aload (pc' := 32) (v := (.ref b618)) at_30 rfl rfl rfl ?_
    refine Wlk.iconst (pc' := 33) (v := (1 : Int32)) at_32 rfl rfl ?_
    refine Wlk.iloadN (pc' := 34) (v := p1) at_33 rfl rfl ?_
    refine Wlk.bipush (pc' := 36) (v := (16 : Int32)) at_34 (by decide) rfl ?_
    refine Wlk.iushr (pc' := 37) at_36 rfl ?_
    refine Wlk.i2c (pc' := 38) at_37 rfl ?_
    obtain ⟨z631, e_z631, r0_z631, r1_z631⟩ : ∃ z, z = (((((p1).toUInt32 >>> ((16 : Int32) &&& 31).toUInt32).toInt32)).toUInt32.toUInt16.toUInt32.toInt32) ∧ ¬ z < 0 ∧ ¬ (65535 : Int32) < z := ⟨_, rfl, (own_i2c _).1, (own_i2c _).2⟩
    rw [← e_z631]
    refine Wlk.castore (pc' := 39) (i := 1) at_38 A630 ⟨by decide, by decide⟩ rfl (Nat.le_of_ble_eq_true rfl) g622 rfl (fun h632 W633 A634 => ?_)
    rw [nar_char r0_z631 r1_z631] at A634
    have A635 : Arv Z h632 b618 kc620 .char (3 : Int32) [(.int z626), (.int z631), (.int (0 : Int32))] (.int 0) := A634
    refine Wlk.iloadN (pc' := 40) (v := (3 : Int32)) at_39 rfl rfl ?_
    refine Wlk.iconst (pc' := 41) (v := (2 : Int32)) at_40 rfl rfl ?_
    refine Wlk.icF (pc' := 44) at_41 (show (2 : Int32) < (3 : Int32) from by decide) rfl ?_
    refine Wlk.aload (pc' := 46) (v := (.ref b618)) at_44 rfl rfl rfl ?_
    refine Wlk.iconst (pc' := 47) (v := (2 : Int32)) at_46 rfl rfl ?_
    refine Wlk.iloadN (pc' := 48) (v := p2) at_47 rfl rfl ?_
    refine Wlk.ldcI (pc' := 50) (v := (65535 : Int32)) at_48 (hw _ (List.mem_of_getElem? (i := 2) rfl)) rfl ?_
    refine Wlk.iand (pc' := 51) at_50 rfl ?_
    refine Wlk.i2c (pc' := 52) at_51 rfl ?_
    obtain ⟨z636, e_z636, r0_z636, r1_z636⟩ : ∃ z, z = (((p2 &&& (65535 : Int32))).toUInt32.toUInt16.toUInt32.toInt32) ∧ ¬ z < 0 ∧ ¬ (65535 : Int32) < z := ⟨_, rfl, (own_i2c _).1, (own_i2c _).2⟩
    rw [← e_z636]
    refine Wlk.castore (pc' := 53) (i := 2) at_52 A635 ⟨by decide, by decide⟩ rfl (Nat.le_of_ble_eq_true rfl) g622 rfl (fun h637 W638 A639 => ?_)
    rw [nar_char r0_z636 r1_z636] at A639
    have A640 : Arv Z h637 b618 kc620 .char (3 : Int32) [(.int z626), (.int z631), (.int z636)] (.int 0) := A639
    refine Wlk.iloadN (pc' := 54) (v := (3 : Int32)) at_53 rfl rfl ?_
    refine Wlk.iconst (pc' := 55) (v := (3 : Int32)) at_54 rfl rfl ?_
    refine Wlk.icT (pc' := 67) at_55 (by decide) (by decide) (show ¬ ((3 : Int32) < (3 : Int32)) from by decide) ?_
    refine Wlk.newO (pc' := 70) (C := "java/lang/String") at_67 (hw _ (List.mem_of_getElem? (i := 3) rfl)) (hw _ (List.mem_of_getElem? (i := 4) rfl)) (hw _ (List.mem_of_getElem? (i := 5) rfl)) (by decide) (by decide) rfl (fun b641 h642 le643 g644 E645 A646 D647 => ?_)
    have F648 : Fld Z h642 b641 "java/lang/String" "coder" "B" (.int (0 : Int32)) := D647 (Or.inr (hw _ (List.mem_of_getElem? (i := 29) rfl))) (ty := .byte) (by decide)
    have F649 : Fld Z h642 b641 "java/lang/String" "value" "[B" .null := D647 (Or.inr (hw _ (List.mem_of_getElem? (i := 31) rfl))) (ty := (.array .byte)) (by decide)
    refine Wlk.dup (pc' := 71) at_70 rfl rfl ?_
    refine Wlk.aload (pc' := 73) (v := (.ref b618)) at_71 rfl rfl rfl ?_
    have hR650 : ∀ c ∈ [z626, z631, z636], ¬ c < 0 ∧ ¬ (65535 : Int32) < c := by
      intro c hc
      simp only [List.mem_cons, List.not_mem_nil, or_false] at hc
      rcases hc with hc | hc | hc
      · rw [hc]; exact ⟨r0_z626, r1_z626⟩
      · rw [hc]; exact ⟨r0_z631, r1_z631⟩
      · rw [hc]; exact ⟨r0_z636, r1_z636⟩
    have c651 := (A640.ext E645)
    refine Wlk.callC (pc' := 76) (a := b641) (z := (⟨"java/lang/String", "<init>", "([C)V"⟩ : MethodName)) (argsL := [(.ref b618)]) (st := [(.ref b641)]) (W := 1) at_73 (hw _ (List.mem_of_getElem? (i := 6) rfl)) (hw _ (List.mem_of_getElem? (i := 7) rfl)) (hw _ (List.mem_of_getElem? (i := 5) rfl)) (hw _ (List.mem_of_getElem? (i := 8) rfl)) (by decide) rfl pd_23 rfl (st_ini1A hw b641 b618 .null (.int (0 : Int32)) kc620 [z626, z631, z636] (.int 0) zc h642 q0_Sta q1_Sta q2_Sta A646 F649 F648 g644 c651 O2 P3 (by first | exact hn | exact Nat.le_of_ble_eq_true rfl) (by first | exact hp | exact Nat.le_of_ble_eq_true rfl) hR650) (by decide) rfl (by decide) (by decide) (by decide) rfl rfl (fun v652 h653 J654 q655 => ?_)
    obtain ⟨t656, rfl, le657, g658, K659, n660⟩ := q655
    show Wlk _ _ _ _ _ _ _ _ _ h653 4 19 76 #[.val (.int p1), .val (.int p2), .val (.int p3), .val (.int (3 : Int32)), .val (.ref b618), .unset] [(.ref b641)]
    refine Wlk.callS (pc' := 79) (z := (⟨"com/example/strict_crosswalk/strictcrosswalk/forms/Doi", "caseFolded", "(Ljava/lang/String;)Ljava/lang/String;"⟩ : MethodName)) (argsL := [(.ref b641)]) (st := []) (W := 0) at_76 (hw _ (List.mem_of_getElem? (i := 32) rfl)) (hw _ (List.mem_of_getElem? (i := 33) rfl)) (hw _ (List.mem_of_getElem? (i := 34) rfl)) (hw _ (List.mem_of_getElem? (i := 35) rfl)) (by decide) pd_24 rfl (rm_cf hw b641 t656 [z626, z631, z636] sf zc h653 q0_Sta q1_Sta q2_Sta SFO hsf O2 P3 n660 (Nat.le_of_ble_eq_true rfl) (Nat.le_of_ble_eq_true rfl) hR650) (by decide) rfl (by decide) (by decide) (by decide) rfl rfl (fun v661 h662 J663 q664 => ?_)
    obtain ⟨x665, u666, rfl, le667, g668, le669, g670, K671, n672⟩ := q664
    show Wlk _ _ _ _ _ _ _ _ _ h662 8 39 79 #[.val (.int p1), .val (.int p2), .val (.int p3), .val (.int (3 : Int32)), .val (.ref b618), .unset] [(.ref x665)]
    refine Wlk.astore (pc' := 81) (Ls' := #[.val (.int p1), .val (.int p2), .val (.int p3), .val (.int (3 : Int32)), .val (.ref b618), .val (.ref x665)]) at_79 rfl rfl rfl rfl ?_
    refine Wlk.aload (pc' := 83) (v := (.ref x665)) at_81 rfl rfl rfl ?_
    refine Wlk.callV (pc' := 86) (a := x665) (x := (⟨"java/lang/String", "length", "()I"⟩ : MethodName)) (C := "java/lang/String") (z := (⟨"java/lang/String", "length", "()I"⟩ : MethodName)) (argsL := []) (st := []) (W := 0) at_83 (hw _ (List.mem_of_getElem? (i := 55) rfl)) (hw _ (List.mem_of_getElem? (i := 56) rfl)) (fun s q => notFace_of_selects (args := #[]) (mvT q (hw _ (List.mem_of_getElem? (i := 58) rfl)))) (hw _ (List.mem_of_getElem? (i := 58) rfl)) (hw _ (List.mem_of_getElem? (i := 57) rfl)) n672.exa (hw _ (List.mem_of_getElem? (i := 5) rfl)) (hw _ (List.mem_of_getElem? (i := 59) rfl)) (by decide) pd_25 rfl (st_len hw x665 u666 ([z626, z631, z636].map fo) zc h662 O2 P3 n672 (by first | exact hn | omega | exact Nat.le_of_ble_eq_true rfl)) (by decide) rfl (by decide) (by decide) (by decide) rfl rfl (fun v673 h674 J675 q676 => ?_)
    obtain ⟨rfl, rfl⟩ := q676
    show Wlk _ _ _ _ _ _ _ _ _ h662 8 39 86 #[.val (.int p1), .val (.int p2), .val (.int p3), .val (.int (3 : Int32)), .val (.ref b618), .val (.ref x665)] [(.int (Int32.ofNat ([z626, z631, z636].map fo).length))]
    refine Wlk.iloadN (pc' := 87) (v := (3 : Int32)) at_86 rfl rfl ?_
    refine Wlk.icT (pc' := 92) at_87 (by decide) (by decide) (show (Int32.ofNat ([z626, z631, z636].map fo).length) = (3 : Int32) from rfl) ?_
    refine Wlk.aload (pc' := 94) (v := (.ref x665)) at_92 rfl rfl rfl ?_
    refine Wlk.aload (pc' := 96) (v := (.ref b618)) at_94 rfl rfl rfl ?_
    refine Wlk.iconst (pc' := 97) (v := (0 : Int32)) at_96 rfl rfl ?_
    have c677 := ((c651.keep K659 (ninS (Nat.ne_of_lt (Nat.lt_of_lt_of_le A625.lt (Nat.le_trans (Nat.le_trans (Nat.le_trans (Nat.le_of_eq W628.size.symm) (Nat.le_of_eq W633.size.symm)) (Nat.le_of_eq W638.size.symm)) le643))) nin0)).keep K671 nin0)
    refine Wlk.callS (pc' := 100) (z := (⟨"com/example/strict_crosswalk/strictcrosswalk/forms/DoiCaseFoldedPinLaw", "at", "(Ljava/lang/String;[CI)Z"⟩ : MethodName)) (argsL := [(.ref x665), (.ref b618), (.int (0 : Int32))]) (st := []) (W := 0) at_97 (hw _ (List.mem_of_getElem? (i := 65) rfl)) (hw _ (List.mem_of_getElem? (i := 66) rfl)) (hw _ (List.mem_of_getElem? (i := 67) rfl)) (hw _ (List.mem_of_getElem? (i := 68) rfl)) (by decide) pd_26 rfl (rm_at hw x665 u666 b618 kc620 [z626, z631, z636] (.int 0) 0 z626 sf zc h662 q0_Sta q1_Sta q2_Sta SFO hsf O2 P3 n672 c677 (Nat.le_of_ble_eq_true rfl) (Nat.le_of_ble_eq_true rfl) rfl hR650) (by decide) rfl (by decide) (by decide) (by decide) rfl rfl (fun v678 h679 J680 q681 => ?_)
    obtain ⟨rfl, rfl⟩ := q681
    show Wlk _ _ _ _ _ _ _ _ _ h662 8 39 100 #[.val (.int p1), .val (.int p2), .val (.int p3), .val (.int (3 : Int32)), .val (.ref b618), .val (.ref x665)] [(.int (1 : Int32))]
    refine Wlk.ifF (pc' := 103) at_100 (show ¬ ((1 : Int32) = (0 : Int32)) from by decide) rfl ?_
    refine Wlk.aload (pc' := 105) (v := (.ref x665)) at_103 rfl rfl rfl ?_
    refine Wlk.aload (pc' := 107) (v := (.ref b618)) at_105 rfl rfl rfl ?_
    refine Wlk.iconst (pc' := 108) (v := (1 : Int32)) at_107 rfl rfl ?_
    refine Wlk.callS (pc' := 111) (z := (⟨"com/example/strict_crosswalk/strictcrosswalk/forms/DoiCaseFoldedPinLaw", "at", "(Ljava/lang/String;[CI)Z"⟩ : MethodName)) (argsL := [(.ref x665), (.ref b618), (.int (1 : Int32))]) (st := []) (W := 0) at_108 (hw _ (List.mem_of_getElem? (i := 65) rfl)) (hw _ (List.mem_of_getElem? (i := 66) rfl)) (hw _ (List.mem_of_getElem? (i := 67) rfl)) (hw _ (List.mem_of_getElem? (i := 68) rfl)) (by decide) pd_26 rfl (rm_at hw x665 u666 b618 kc620 [z626, z631, z636] (.int 0) 1 z631 sf zc h662 q0_Sta q1_Sta q2_Sta SFO hsf O2 P3 n672 c677 (Nat.le_of_ble_eq_true rfl) (Nat.le_of_ble_eq_true rfl) rfl hR650) (by decide) rfl (by decide) (by decide) (by decide) rfl rfl (fun v682 h683 J684 q685 => ?_)
    obtain ⟨rfl, rfl⟩ := q685
    show Wlk _ _ _ _ _ _ _ _ _ h662 8 39 111 #[.val (.int p1), .val (.int p2), .val (.int p3), .val (.int (3 : Int32)), .val (.ref b618), .val (.ref x665)] [(.int (1 : Int32))]
    refine Wlk.ifF (pc' := 114) at_111 (show ¬ ((1 : Int32) = (0 : Int32)) from by decide) rfl ?_
    refine Wlk.aload (pc' := 116) (v := (.ref x665)) at_114 rfl rfl rfl ?_
    refine Wlk.aload (pc' := 118) (v := (.ref b618)) at_116 rfl rfl rfl ?_
    refine Wlk.iconst (pc' := 119) (v := (2 : Int32)) at_118 rfl rfl ?_
    refine Wlk.callS (pc' := 122) (z := (⟨"com/example/strict_crosswalk/strictcrosswalk/forms/DoiCaseFoldedPinLaw", "at", "(Ljava/lang/String;[CI)Z"⟩ : MethodName)) (argsL := [(.ref x665), (.ref b618), (.int (2 : Int32))]) (st := []) (W := 0) at_119 (hw _ (List.mem_of_getElem? (i := 65) rfl)) (hw _ (List.mem_of_getElem? (i := 66) rfl)) (hw _ (List.mem_of_getElem? (i := 67) rfl)) (hw _ (List.mem_of_getElem? (i := 68) rfl)) (by decide) pd_26 rfl (rm_at hw x665 u666 b618 kc620 [z626, z631, z636] (.int 0) 2 z636 sf zc h662 q0_Sta q1_Sta q2_Sta SFO hsf O2 P3 n672 c677 (Nat.le_of_ble_eq_true rfl) (Nat.le_of_ble_eq_true rfl) rfl hR650) (by decide) rfl (by decide) (by decide) (by decide) rfl rfl (fun v686 h687 J688 q689 => ?_)
    obtain ⟨rfl, rfl⟩ := q689
    show Wlk _ _ _ _ _ _ _ _ _ h662 8 39 122 #[.val (.int p1), .val (.int p2), .val (.int p3), .val (.int (3 : Int32)), .val (.ref b618), .val (.ref x665)] [(.int (1 : Int32))]
    refine Wlk.ifF (pc' := 125) at_122 (show ¬ ((1 : Int32) = (0 : Int32)) from by decide) rfl ?_
    refine Wlk.aload (pc' := 127) (v := (.ref x665)) at_125 rfl rfl rfl ?_
    refine Wlk.aload (pc' := 129) (v := (.ref b618)) at_127 rfl rfl rfl ?_
    refine Wlk.iconst (pc' := 130) (v := (3 : Int32)) at_129 rfl rfl ?_
    refine Wlk.callS (pc' := 133) (z := (⟨"com/example/strict_crosswalk/strictcrosswalk/forms/DoiCaseFoldedPinLaw", "at", "(Ljava/lang/String;[CI)Z"⟩ : MethodName)) (argsL := [(.ref x665), (.ref b618), (.int (3 : Int32))]) (st := []) (W := 0) at_130 (hw _ (List.mem_of_getElem? (i := 65) rfl)) (hw _ (List.mem_of_getElem? (i := 66) rfl)) (hw _ (List.mem_of_getElem? (i := 67) rfl)) (hw _ (List.mem_of_getElem? (i := 68) rfl)) (by decide) pd_26 rfl (rm_at0 hw x665 b618 kc620 (3 : Int32) [(.int z626), (.int z631), (.int z636)] (.int 0) (3 : Int32) h662 c677 (by decide)) (by decide) rfl (by decide) (by decide) (by decide) rfl rfl (fun v690 h691 J692 q693 => ?_)
    obtain ⟨rfl, rfl⟩ := q693
    show Wlk _ _ _ _ _ _ _ _ _ h662 8 39 133 #[.val (.int p1), .val (.int p2), .val (.int p3), .val (.int (3 : Int32)), .val (.ref b618), .val (.ref x665)] [(.int (1 : Int32))]
    refine Wlk.ifF (pc' := 136) at_133 (show ¬ ((1 : Int32) = (0 : Int32)) from by decide) rfl ?_
    refine Wlk.iconst (pc' := 137) (v := (1 : Int32)) at_136 rfl rfl ?_
    refine Wlk.goto (pc' := 141) at_137 (by decide) (by decide) ?_
    refine Wlk.ireturnN (t := .boolean) at_141 rfl (by simp) (by decide) (by decide) ?_
    exact rfl
  · skip
    refine Wlk.istoreN (pc' := 7) (Ls' := #[.val (.int p1), .val (.int p2), .val (.int p3), .val (.int (4 : Int32)), .unset, .unset]) at_6 rfl rfl rfl ?_
    refine Wlk.iloadN (pc' := 8) (v := (4 : Int32)) at_7 rfl rfl ?_
    refine Wlk.newP (pc' := 10) (ty := .char) (cap := 4) at_8 rfl (hw _ (List.mem_of_getElem? (i := 1) rfl)) (by decide) (by decide) (by decide) (by decide) (by decide) rfl (fun b694 h695 kc696 le697 g698 E699 A700 => ?_)
    have A701 : Arv Z h695 b694 kc696 .char (4 : Int32) [.int 0, .int 0, .int 0, .int 0] (.int 0) := A700.pad (pad_rep [] (.int 0) 4)
    refine Wlk.astore (pc' := 12) (Ls' := #[.val (.int p1), .val (.int p2), .val (.int p3), .val (.int (4 : Int32)), .val (.ref b694), .unset]) at_10 rfl rfl rfl rfl ?_
    refine Wlk.iloadN (pc' := 13) (v := (4 : Int32)) at_12 rfl rfl ?_
    refine Wlk.ifF (pc' := 16) at_13 (show (0 : Int32) < (4 : Int32) from by decide) rfl ?_
    refine Wlk.aload (pc' := 18) (v := (.ref b694)) at_16 rfl rfl rfl ?_
    refine Wlk.iconst (pc' := 19) (v := (0 : Int32)) at_18 rfl rfl ?_
    refine Wlk.iloadN (pc' := 20) (v := p1) at_19 rfl rfl ?_
    refine Wlk.ldcI (pc' := 22) (v := (65535 : Int32)) at_20 (hw _ (List.mem_of_getElem? (i := 2) rfl)) rfl ?_
    refine Wlk.iand (pc' := 23) at_22 rfl ?_
    refine Wlk.i2c (pc' := 24) at_23 rfl ?_
    obtain ⟨z702, e_z702, r0_z702, r1_z702⟩ : ∃ z, z = (((p1 &&& (65535 : Int32))).toUInt32.toUInt16.toUInt32.toInt32) ∧ ¬ z < 0 ∧ ¬ (65535 : Int32) < z := ⟨_, rfl, (own_i2c _).1, (own_i2c _).2⟩
    rw [← e_z702]
    refine Wlk.castore (pc' := 25) (i := 0) at_24 A701 ⟨by decide, by decide⟩ rfl (Nat.le_of_ble_eq_true rfl) g698 rfl (fun h703 W704 A705 => ?_)
    rw [nar_char r0_z702 r1_z702] at A705
    have A706 : Arv Z h703 b694 kc696 .char (4 : Int32) [(.int z702), (.int (0 : Int32)), (.int (0 : Int32)), (.int (0 : Int32))] (.int 0) := A705
    refine Wlk.iloadN (pc' := 26) (v := (4 : Int32)) at_25 rfl rfl ?_
    refine Wlk.iconst (pc' := 27) (v := (1 : Int32)) at_26 rfl rfl ?_
    refine Wlk.icF (pc' := 30) at_27 (show (1 : Int32) < (4 : Int32) from by decide) rfl ?_
    refine Wlk.aload (pc' := 32) (v := (.ref b694)) at_30 rfl rfl rfl ?_
    refine Wlk.iconst (pc' := 33) (v := (1 : Int32)) at_32 rfl rfl ?_
    refine Wlk.iloadN (pc' := 34) (v := p1) at_33 rfl rfl ?_
    refine Wlk.bipush (pc' := 36) (v := (16 : Int32)) at_34 (by decide) rfl ?_
    refine Wlk.iushr (pc' := 37) at_36 rfl ?_
    refine Wlk.i2c (pc' := 38) at_37 rfl ?_
    obtain ⟨z707, e_z707, r0_z707, r1_z707⟩ : ∃ z, z = (((((p1).toUInt32 >>> ((16 : Int32) &&& 31).toUInt32).toInt32)).toUInt32.toUInt16.toUInt32.toInt32) ∧ ¬ z < 0 ∧ ¬ (65535 : Int32) < z := ⟨_, rfl, (own_i2c _).1, (own_i2c _).2⟩
    rw [← e_z707]
    refine Wlk.castore (pc' := 39) (i := 1) at_38 A706 ⟨by decide, by decide⟩ rfl (Nat.le_of_ble_eq_true rfl) g698 rfl (fun h708 W709 A710 => ?_)
    rw [nar_char r0_z707 r1_z707] at A710
    have A711 : Arv Z h708 b694 kc696 .char (4 : Int32) [(.int z702), (.int z707), (.int (0 : Int32)), (.int (0 : Int32))] (.int 0) := A710
    refine Wlk.iloadN (pc' := 40) (v := (4 : Int32)) at_39 rfl rfl ?_
    refine Wlk.iconst (pc' := 41) (v := (2 : Int32)) at_40 rfl rfl ?_
    refine Wlk.icF (pc' := 44) at_41 (show (2 : Int32) < (4 : Int32) from by decide) rfl ?_
    refine Wlk.aload (pc' := 46) (v := (.ref b694)) at_44 rfl rfl rfl ?_
    refine Wlk.iconst (pc' := 47) (v := (2 : Int32)) at_46 rfl rfl ?_
    refine Wlk.iloadN (pc' := 48) (v := p2) at_47 rfl rfl ?_
    refine Wlk.ldcI (pc' := 50) (v := (65535 : Int32)) at_48 (hw _ (List.mem_of_getElem? (i := 2) rfl)) rfl ?_
    refine Wlk.iand (pc' := 51) at_50 rfl ?_
    refine Wlk.i2c (pc' := 52) at_51 rfl ?_
    obtain ⟨z712, e_z712, r0_z712, r1_z712⟩ : ∃ z, z = (((p2 &&& (65535 : Int32))).toUInt32.toUInt16.toUInt32.toInt32) ∧ ¬ z < 0 ∧ ¬ (65535 : Int32) < z := ⟨_, rfl, (own_i2c _).1, (own_i2c _).2⟩
    rw [← e_z712]
    refine Wlk.castore (pc' := 53) (i := 2) at_52 A711 ⟨by decide, by decide⟩ rfl (Nat.le_of_ble_eq_true rfl) g698 rfl (fun h713 W714 A715 => ?_)
    rw [nar_char r0_z712 r1_z712] at A715
    have A716 : Arv Z h713 b694 kc696 .char (4 : Int32) [(.int z702), (.int z707), (.int z712), (.int (0 : Int32))] (.int 0) := A715
    refine Wlk.iloadN (pc' := 54) (v := (4 : Int32)) at_53 rfl rfl ?_
    refine Wlk.iconst (pc' := 55) (v := (3 : Int32)) at_54 rfl rfl ?_
    refine Wlk.icF (pc' := 58) at_55 (show (3 : Int32) < (4 : Int32) from by decide) rfl ?_
    refine Wlk.aload (pc' := 60) (v := (.ref b694)) at_58 rfl rfl rfl ?_
    refine Wlk.iconst (pc' := 61) (v := (3 : Int32)) at_60 rfl rfl ?_
    refine Wlk.iloadN (pc' := 62) (v := p2) at_61 rfl rfl ?_
    refine Wlk.bipush (pc' := 64) (v := (16 : Int32)) at_62 (by decide) rfl ?_
    refine Wlk.iushr (pc' := 65) at_64 rfl ?_
    refine Wlk.i2c (pc' := 66) at_65 rfl ?_
    obtain ⟨z717, e_z717, r0_z717, r1_z717⟩ : ∃ z, z = (((((p2).toUInt32 >>> ((16 : Int32) &&& 31).toUInt32).toInt32)).toUInt32.toUInt16.toUInt32.toInt32) ∧ ¬ z < 0 ∧ ¬ (65535 : Int32) < z := ⟨_, rfl, (own_i2c _).1, (own_i2c _).2⟩
    rw [← e_z717]
    refine Wlk.castore (pc' := 67) (i := 3) at_66 A716 ⟨by decide, by decide⟩ rfl (Nat.le_of_ble_eq_true rfl) g698 rfl (fun h718 W719 A720 => ?_)
    rw [nar_char r0_z717 r1_z717] at A720
    have A721 : Arv Z h718 b694 kc696 .char (4 : Int32) [(.int z702), (.int z707), (.int z712), (.int z717)] (.int 0) := A720
    refine Wlk.newO (pc' := 70) (C := "java/lang/String") at_67 (hw _ (List.mem_of_getElem? (i := 3) rfl)) (hw _ (List.mem_of_getElem? (i := 4) rfl)) (hw _ (List.mem_of_getElem? (i := 5) rfl)) (by decide) (by decide) rfl (fun b722 h723 le724 g725 E726 A727 D728 => ?_)
    have F729 : Fld Z h723 b722 "java/lang/String" "coder" "B" (.int (0 : Int32)) := D728 (Or.inr (hw _ (List.mem_of_getElem? (i := 29) rfl))) (ty := .byte) (by decide)
    have F730 : Fld Z h723 b722 "java/lang/String" "value" "[B" .null := D728 (Or.inr (hw _ (List.mem_of_getElem? (i := 31) rfl))) (ty := (.array .byte)) (by decide)
    refine Wlk.dup (pc' := 71) at_70 rfl rfl ?_
    refine Wlk.aload (pc' := 73) (v := (.ref b694)) at_71 rfl rfl rfl ?_
    have hR731 : ∀ c ∈ [z702, z707, z712, z717], ¬ c < 0 ∧ ¬ (65535 : Int32) < c := by
      intro c hc
      simp only [List.mem_cons, List.not_mem_nil, or_false] at hc
      rcases hc with hc | hc | hc | hc
      · rw [hc]; exact ⟨r0_z702, r1_z702⟩
      · rw [hc]; exact ⟨r0_z707, r1_z707⟩
      · rw [hc]; exact ⟨r0_z712, r1_z712⟩
      · rw [hc]; exact ⟨r0_z717, r1_z717⟩
    have c732 := (A721.ext E726)
    refine Wlk.callC (pc' := 76) (a := b722) (z := (⟨"java/lang/String", "<init>", "([C)V"⟩ : MethodName)) (argsL := [(.ref b694)]) (st := [(.ref b722)]) (W := 1) at_73 (hw _ (List.mem_of_getElem? (i := 6) rfl)) (hw _ (List.mem_of_getElem? (i := 7) rfl)) (hw _ (List.mem_of_getElem? (i := 5) rfl)) (hw _ (List.mem_of_getElem? (i := 8) rfl)) (by decide) rfl pd_23 rfl (st_ini1A hw b722 b694 .null (.int (0 : Int32)) kc696 [z702, z707, z712, z717] (.int 0) zc h723 q0_Sta q1_Sta q2_Sta A727 F730 F729 g725 c732 O2 P3 (by first | exact hn | exact Nat.le_of_ble_eq_true rfl) (by first | exact hp | exact Nat.le_of_ble_eq_true rfl) hR731) (by decide) rfl (by decide) (by decide) (by decide) rfl rfl (fun v733 h734 J735 q736 => ?_)
    obtain ⟨t737, rfl, le738, g739, K740, n741⟩ := q736
    show Wlk _ _ _ _ _ _ _ _ _ h734 4 20 76 #[.val (.int p1), .val (.int p2), .val (.int p3), .val (.int (4 : Int32)), .val (.ref b694), .unset] [(.ref b722)]
    refine Wlk.callS (pc' := 79) (z := (⟨"com/example/strict_crosswalk/strictcrosswalk/forms/Doi", "caseFolded", "(Ljava/lang/String;)Ljava/lang/String;"⟩ : MethodName)) (argsL := [(.ref b722)]) (st := []) (W := 0) at_76 (hw _ (List.mem_of_getElem? (i := 32) rfl)) (hw _ (List.mem_of_getElem? (i := 33) rfl)) (hw _ (List.mem_of_getElem? (i := 34) rfl)) (hw _ (List.mem_of_getElem? (i := 35) rfl)) (by decide) pd_24 rfl (rm_cf hw b722 t737 [z702, z707, z712, z717] sf zc h734 q0_Sta q1_Sta q2_Sta SFO hsf O2 P3 n741 (Nat.le_of_ble_eq_true rfl) (Nat.le_of_ble_eq_true rfl) hR731) (by decide) rfl (by decide) (by decide) (by decide) rfl rfl (fun v742 h743 J744 q745 => ?_)
    obtain ⟨x746, u747, rfl, le748, g749, le750, g751, K752, n753⟩ := q745
    show Wlk _ _ _ _ _ _ _ _ _ h743 8 40 79 #[.val (.int p1), .val (.int p2), .val (.int p3), .val (.int (4 : Int32)), .val (.ref b694), .unset] [(.ref x746)]
    refine Wlk.astore (pc' := 81) (Ls' := #[.val (.int p1), .val (.int p2), .val (.int p3), .val (.int (4 : Int32)), .val (.ref b694), .val (.ref x746)]) at_79 rfl rfl rfl rfl ?_
    refine Wlk.aload (pc' := 83) (v := (.ref x746)) at_81 rfl rfl rfl ?_
    refine Wlk.callV (pc' := 86) (a := x746) (x := (⟨"java/lang/String", "length", "()I"⟩ : MethodName)) (C := "java/lang/String") (z := (⟨"java/lang/String", "length", "()I"⟩ : MethodName)) (argsL := []) (st := []) (W := 0) at_83 (hw _ (List.mem_of_getElem? (i := 55) rfl)) (hw _ (List.mem_of_getElem? (i := 56) rfl)) (fun s q => notFace_of_selects (args := #[]) (mvT q (hw _ (List.mem_of_getElem? (i := 58) rfl)))) (hw _ (List.mem_of_getElem? (i := 58) rfl)) (hw _ (List.mem_of_getElem? (i := 57) rfl)) n753.exa (hw _ (List.mem_of_getElem? (i := 5) rfl)) (hw _ (List.mem_of_getElem? (i := 59) rfl)) (by decide) pd_25 rfl (st_len hw x746 u747 ([z702, z707, z712, z717].map fo) zc h743 O2 P3 n753 (by first | exact hn | omega | exact Nat.le_of_ble_eq_true rfl)) (by decide) rfl (by decide) (by decide) (by decide) rfl rfl (fun v754 h755 J756 q757 => ?_)
    obtain ⟨rfl, rfl⟩ := q757
    show Wlk _ _ _ _ _ _ _ _ _ h743 8 40 86 #[.val (.int p1), .val (.int p2), .val (.int p3), .val (.int (4 : Int32)), .val (.ref b694), .val (.ref x746)] [(.int (Int32.ofNat ([z702, z707, z712, z717].map fo).length))]
    refine Wlk.iloadN (pc' := 87) (v := (4 : Int32)) at_86 rfl rfl ?_
    refine Wlk.icT (pc' := 92) at_87 (by decide) (by decide) (show (Int32.ofNat ([z702, z707, z712, z717].map fo).length) = (4 : Int32) from rfl) ?_
    refine Wlk.aload (pc' := 94) (v := (.ref x746)) at_92 rfl rfl rfl ?_
    refine Wlk.aload (pc' := 96) (v := (.ref b694)) at_94 rfl rfl rfl ?_
    refine Wlk.iconst (pc' := 97) (v := (0 : Int32)) at_96 rfl rfl ?_
    have c758 := ((c732.keep K740 (ninS (Nat.ne_of_lt (Nat.lt_of_lt_of_le A701.lt (Nat.le_trans (Nat.le_trans (Nat.le_trans (Nat.le_trans (Nat.le_of_eq W704.size.symm) (Nat.le_of_eq W709.size.symm)) (Nat.le_of_eq W714.size.symm)) (Nat.le_of_eq W719.size.symm)) le724))) nin0)).keep K752 nin0)
    refine Wlk.callS (pc' := 100) (z := (⟨"com/example/strict_crosswalk/strictcrosswalk/forms/DoiCaseFoldedPinLaw", "at", "(Ljava/lang/String;[CI)Z"⟩ : MethodName)) (argsL := [(.ref x746), (.ref b694), (.int (0 : Int32))]) (st := []) (W := 0) at_97 (hw _ (List.mem_of_getElem? (i := 65) rfl)) (hw _ (List.mem_of_getElem? (i := 66) rfl)) (hw _ (List.mem_of_getElem? (i := 67) rfl)) (hw _ (List.mem_of_getElem? (i := 68) rfl)) (by decide) pd_26 rfl (rm_at hw x746 u747 b694 kc696 [z702, z707, z712, z717] (.int 0) 0 z702 sf zc h743 q0_Sta q1_Sta q2_Sta SFO hsf O2 P3 n753 c758 (Nat.le_of_ble_eq_true rfl) (Nat.le_of_ble_eq_true rfl) rfl hR731) (by decide) rfl (by decide) (by decide) (by decide) rfl rfl (fun v759 h760 J761 q762 => ?_)
    obtain ⟨rfl, rfl⟩ := q762
    show Wlk _ _ _ _ _ _ _ _ _ h743 8 40 100 #[.val (.int p1), .val (.int p2), .val (.int p3), .val (.int (4 : Int32)), .val (.ref b694), .val (.ref x746)] [(.int (1 : Int32))]
    refine Wlk.ifF (pc' := 103) at_100 (show ¬ ((1 : Int32) = (0 : Int32)) from by decide) rfl ?_
    refine Wlk.aload (pc' := 105) (v := (.ref x746)) at_103 rfl rfl rfl ?_
    refine Wlk.aload (pc' := 107) (v := (.ref b694)) at_105 rfl rfl rfl ?_
    refine Wlk.iconst (pc' := 108) (v := (1 : Int32)) at_107 rfl rfl ?_
    refine Wlk.callS (pc' := 111) (z := (⟨"com/example/strict_crosswalk/strictcrosswalk/forms/DoiCaseFoldedPinLaw", "at", "(Ljava/lang/String;[CI)Z"⟩ : MethodName)) (argsL := [(.ref x746), (.ref b694), (.int (1 : Int32))]) (st := []) (W := 0) at_108 (hw _ (List.mem_of_getElem? (i := 65) rfl)) (hw _ (List.mem_of_getElem? (i := 66) rfl)) (hw _ (List.mem_of_getElem? (i := 67) rfl)) (hw _ (List.mem_of_getElem? (i := 68) rfl)) (by decide) pd_26 rfl (rm_at hw x746 u747 b694 kc696 [z702, z707, z712, z717] (.int 0) 1 z707 sf zc h743 q0_Sta q1_Sta q2_Sta SFO hsf O2 P3 n753 c758 (Nat.le_of_ble_eq_true rfl) (Nat.le_of_ble_eq_true rfl) rfl hR731) (by decide) rfl (by decide) (by decide) (by decide) rfl rfl (fun v763 h764 J765 q766 => ?_)
    obtain ⟨rfl, rfl⟩ := q766
    show Wlk _ _ _ _ _ _ _ _ _ h743 8 40 111 #[.val (.int p1), .val (.int p2), .val (.int p3), .val (.int (4 : Int32)), .val (.ref b694), .val (.ref x746)] [(.int (1 : Int32))]
    refine Wlk.ifF (pc' := 114) at_111 (show ¬ ((1 : Int32) = (0 : Int32)) from by decide) rfl ?_
    refine Wlk.aload (pc' := 116) (v := (.ref x746)) at_114 rfl rfl rfl ?_
    refine Wlk.aload (pc' := 118) (v := (.ref b694)) at_116 rfl rfl rfl ?_
    refine Wlk.iconst (pc' := 119) (v := (2 : Int32)) at_118 rfl rfl ?_
    refine Wlk.callS (pc' := 122) (z := (⟨"com/example/strict_crosswalk/strictcrosswalk/forms/DoiCaseFoldedPinLaw", "at", "(Ljava/lang/String;[CI)Z"⟩ : MethodName)) (argsL := [(.ref x746), (.ref b694), (.int (2 : Int32))]) (st := []) (W := 0) at_119 (hw _ (List.mem_of_getElem? (i := 65) rfl)) (hw _ (List.mem_of_getElem? (i := 66) rfl)) (hw _ (List.mem_of_getElem? (i := 67) rfl)) (hw _ (List.mem_of_getElem? (i := 68) rfl)) (by decide) pd_26 rfl (rm_at hw x746 u747 b694 kc696 [z702, z707, z712, z717] (.int 0) 2 z712 sf zc h743 q0_Sta q1_Sta q2_Sta SFO hsf O2 P3 n753 c758 (Nat.le_of_ble_eq_true rfl) (Nat.le_of_ble_eq_true rfl) rfl hR731) (by decide) rfl (by decide) (by decide) (by decide) rfl rfl (fun v767 h768 J769 q770 => ?_)
    obtain ⟨rfl, rfl⟩ := q770
    show Wlk _ _ _ _ _ _ _ _ _ h743 8 40 122 #[.val (.int p1), .val (.int p2), .val (.int p3), .val (.int (4 : Int32)), .val (.ref b694), .val (.ref x746)] [(.int (1 : Int32))]
    refine Wlk.ifF (pc' := 125) at_122 (show ¬ ((1 : Int32) = (0 : Int32)) from by decide) rfl ?_
    refine Wlk.aload (pc' := 127) (v := (.ref x746)) at_125 rfl rfl rfl ?_
    refine Wlk.aload (pc' := 129) (v := (.ref b694)) at_127 rfl rfl rfl ?_
    refine Wlk.iconst (pc' := 130) (v := (3 : Int32)) at_129 rfl rfl ?_
    refine Wlk.callS (pc' := 133) (z := (⟨"com/example/strict_crosswalk/strictcrosswalk/forms/DoiCaseFoldedPinLaw", "at", "(Ljava/lang/String;[CI)Z"⟩ : MethodName)) (argsL := [(.ref x746), (.ref b694), (.int (3 : Int32))]) (st := []) (W := 0) at_130 (hw _ (List.mem_of_getElem? (i := 65) rfl)) (hw _ (List.mem_of_getElem? (i := 66) rfl)) (hw _ (List.mem_of_getElem? (i := 67) rfl)) (hw _ (List.mem_of_getElem? (i := 68) rfl)) (by decide) pd_26 rfl (rm_at hw x746 u747 b694 kc696 [z702, z707, z712, z717] (.int 0) 3 z717 sf zc h743 q0_Sta q1_Sta q2_Sta SFO hsf O2 P3 n753 c758 (Nat.le_of_ble_eq_true rfl) (Nat.le_of_ble_eq_true rfl) rfl hR731) (by decide) rfl (by decide) (by decide) (by decide) rfl rfl (fun v771 h772 J773 q774 => ?_)
    obtain ⟨rfl, rfl⟩ := q774
    show Wlk _ _ _ _ _ _ _ _ _ h743 8 40 133 #[.val (.int p1), .val (.int p2), .val (.int p3), .val (.int (4 : Int32)), .val (.ref b694), .val (.ref x746)] [(.int (1 : Int32))]
    refine Wlk.ifF (pc' := 136) at_133 (show ¬ ((1 : Int32) = (0 : Int32)) from by decide) rfl ?_
    refine Wlk.iconst (pc' := 137) (v := (1 : Int32)) at_136 rfl rfl ?_
    refine Wlk.goto (pc' := 141) at_137 (by decide) (by decide) ?_
    refine Wlk.ireturnN (t := .boolean) at_141 rfl (by simp) (by decide) (by decide) ?_
    exact rfl

set_option maxRecDepth 65536 in
set_option maxHeartbeats 40000000 in
theorem comes_1 {Post : Tables → Env → Array Value → State → Outcome → State → Prop} (hpost : ∀ tb e args s v u, (limb_1_1.after args s (.returned v) u = true ∧ limb_1_2.after args s (.returned v) u = true ∧ True) → ReturnedEndW s (.returned v) u (Jvm.fieldLocs frame_1_writes args s ++ Jvm.arrayLocs frame_1_arrays args s ++ Jvm.staticLocs frame_1_statics s) 32 1216 → Post tb e args s (.returned v) u) :
    ArmFor flags0 classFile x code maxLocals ret World_1 tables_1 room_1 Calls_1 rest_1 Pre_1 Post := by
  intro l hfl _ _ p e ha hc hk s m args below hf hA hF happ hP
  obtain ⟨hcalls, hrest, hpre⟩ := hP
  obtain ⟨-, -, -, hnamed, -, -, -, hat⟩ := (Spec.applies_iff hf).mp happ
  obtain ⟨hg, hn⟩ := and_e (Cond.before_iff.mp (show (Jvm.Cond.and given_1 narrow_1).before args s = true from hpre))
  obtain ⟨gc, gr0⟩ := and_e hg
  obtain ⟨ga0, gr1⟩ := and_e gr0
  obtain ⟨ga1, gr2⟩ := and_e gr1
  obtain ⟨w0, w1, w2, rfl⟩ : ∃ w0 w1 w2 : Value, args = #[w0, w1, w2] := by
    have hs : args.size = 3 := by simpa [Cond.value, given_1] using gc
    obtain ⟨L⟩ := args
    match L, hs with
    | [w0, w1, w2], _ => exact ⟨w0, w1, w2, rfl⟩
  have hw := fun d (hd : d ∈ tables_1) => atoms_spec (ws := Jvm.Cond.code x code maxLocals ret :: tables_1) hat d (List.mem_cons_of_mem _ hd)
  have hfit : Fit s := fun {y c} hc i hi => by
    obtain ⟨ha, rfl⟩ := Array.getElem?_eq_some_iff.mp hc
    have q := List.all_eq_true.mp ((Array.all_eq_true_iff_forall_mem.mp hF) _ (Array.getElem_mem ha)) i (List.mem_range.mpr hi)
    simpa [Array.getElem?_eq_getElem hi] using q
  obtain ⟨hsets, hown0⟩ := atoms_of _ (rest_1_c_eq ▸ (show rest_1_c.before _ s = true from hrest))
  obtain ⟨i0, ei0⟩ := is_v ga0
  obtain rfl : w0 = (.int i0) := Option.some.inj ei0
  obtain ⟨i1, ei1⟩ := is_v ga1
  obtain rfl : w1 = (.int i1) := Option.some.inj ei1
  obtain ⟨i2, ei2⟩ := is_v gr2
  obtain rfl : w2 = (.int i2) := Option.some.inj ei2
  have hs1 := Cond.before_iff.mp (hsets _ (List.mem_of_getElem? (i := 1) rfl))
  obtain ⟨zc, ezc⟩ := is_v hs1
  have O2 : Sta s s.heap "java/lang/String" "COMPACT_STRINGS" "Z" (.int zc) := Sta.start ezc (Or.inl (hsets _ (List.mem_of_getElem? (i := 0) rfl)))
  have P3 : ¬ zc = 0 := fun q => by
    have hn0 := not_v (Cond.before_iff.mp (hsets _ (List.mem_of_getElem? (i := 2) rfl)))
    subst q
    have e1 := eq_i ezc (Term.int_eval (0)) rfl
    rw [e1] at hn0
    cases hn0
  have q0_Sta : Sta s s.heap "java/lang/StringUTF16" "$assertionsDisabled" "Z" (.int (1 : Int32)) := Sta.start (Cond.eq_int (hsets _ (List.mem_of_getElem? (i := 12) rfl)) rfl) (Or.inl (hsets _ (List.mem_of_getElem? (i := 11) rfl)))
  have q1_Sta : Sta s s.heap "java/lang/StringUTF16" "HI_BYTE_SHIFT" "I" (.int (0 : Int32)) := Sta.start (Cond.eq_int (hsets _ (List.mem_of_getElem? (i := 15) rfl)) rfl) (Or.inl (hsets _ (List.mem_of_getElem? (i := 14) rfl)))
  have q2_Sta : Sta s s.heap "java/lang/StringUTF16" "LO_BYTE_SHIFT" "I" (.int (8 : Int32)) := Sta.start (Cond.eq_int (hsets _ (List.mem_of_getElem? (i := 18) rfl)) rfl) (Or.inl (hsets _ (List.mem_of_getElem? (i := 17) rfl)))
  obtain ⟨sf, esf, hsf⟩ := isR_v (Cond.before_iff.mp (hsets _ (List.mem_of_getElem? (i := 8) rfl)))
  have SFO : Sta s s.heap "jdk/internal/util/Preconditions" "SIOOBE_FORMATTER" "Ljava/util/function/BiFunction;" sf := Sta.start esf (Or.inl (hsets _ (List.mem_of_getElem? (i := 7) rfl)))
  have wS : ∀ a ∈ Bundle.stringAtoms, a.before _ s = true := fun d hd => hw d ((by decide +kernel : ∀ d ∈ Bundle.stringAtoms, d ∈ tables_1) d hd)
  have hcw : Jvm.Lit.compactW.before _ s = true := hsets _ (List.mem_of_getElem? (i := 2) rfl)
  have hh_7 : Jvm.Lit.constHeld s "java/lang/String" 7 := hcalls.1 ("java/lang/String", 7) (List.mem_of_getElem? (i := 0) rfl)
  obtain ⟨n, o, h1, h2, h3, v, L, J', rfl, ⟨hQ, N, -, -⟩, hq, hq'⟩ := rm_law (l := l) (Z := s) hw tables_1 i0 i1 i2 s.heap zc O2 P3 q0_Sta q1_Sta q2_Sta sf SFO hsf wS hcw hh_7 p e ha hc hk s m _ below hf ((Spec.applies_iff_loose hf).mp happ).1 ⟨rfl, State.Warmed39.refl s, rfl, ⟨Nat.le_refl _, fun _ _ q => q⟩, fun _ _ => ⟨IB.start, fun x hx => nomatch hx⟩⟩ trivial
  obtain rfl := hQ
  refine ⟨n, _, h1, h2, h3, hpost _ _ _ _ _ _ ⟨Cond.after_iff.mpr rfl, Cond.after_iff.mpr (eq_i res_at (Term.int_eval (1)) rfl), trivial⟩ ⟨⟨_, rfl⟩, hq.2.1, hq.2.2.1, (hq.2.2.2.sift fun y hy => Or.inr (N y hy)).mono (by decide) (by decide)⟩⟩
theorem main_1_1 : Claimed_1_1 := comes_1 fun _ _ _ _ _ _ h hF => ⟨h.1, hF⟩
theorem main_1_2 : Claimed_1_2 := comes_1 fun _ _ _ _ _ _ h hF => ⟨h.2.1, hF⟩

end Jvm.Pilot.@@N@@
namespace Jvm.Pilot.@@N@@
open Jvm Jvm.ClassFile Sem Op Lib Jvm.Free Jvm.Stand Jvm.Pilot.@@N@@.Jvm.D
/-! MADE BY PROGRAM (witnessworld.py) out of the Statement's table words and the real class files: 20 classes; the members and pool entries that the words name. The judged class is class 1, her method 3. -/
namespace start1
open Jvm.ClassFile
def u (s : String) : CpInfo := .utf8 (stringToUtf16 s)
/-- a pool by its gaps: so many unusable entries, then the entry; so many at the end -/
def gap : Nat → List CpInfo → List CpInfo
  | 0, r => r
  | n + 1, r => .unusable :: gap n r
def poolList (es : List (Nat × CpInfo)) (last : Nat) : List CpInfo := es.foldr (fun e r => gap e.1 (e.2 :: r)) (gap last [])
def pool (es : List (Nat × CpInfo)) (last : Nat) : Array CpInfo := ⟨poolList es last⟩
def fileOf (pool : Array CpInfo) (this : Nat) (attrs : Array Attribute := #[]) (ms : Array MethodInfo := #[]) (fl : Nat := 33) (sup : Nat := 0) (ifs : Array Nat := #[]) (fds : Array FieldInfo := #[]) : ClassFile where
  minorVersion := 0
  majorVersion := 65
  constantPool := pool
  accessFlags := fl
  thisClass := this
  superClass := sup
  interfaces := ifs
  fields := fds
  methods := ms
  attributes := attrs
def plain (name : String) (sup : Option ClassId) : Class where
  name := name
  kind := .ordinary
  loader := none
  accessFlags := 33
  super := sup
  interfaces := #[]
  cf := none
  fields := #[]
  methods := #[]
  instanceTypes := #[]
  staticTypes := #[]
  resolved := #[]
  callSites := []
  init := .initialized
  statics := none
  mirror := none

def pool0 : Array CpInfo := pool [(5, u "<init>"), (0, u "()V"), (1, .class_ 10), (1, u "java/lang/Object")] 113

def k0c0 : Code := { maxStack := 0, maxLocals := 1, code := object_method_1_code, exceptionTable := #[], attributes := #[] }
def k0m0 : Method := { name := "<init>", desc := "()V", sig := { parameters := [], returnType := none }, accessFlags := 1, code := some k0c0 }
/-- java/lang/Object -/
def k0 : Class := { plain "java/lang/Object" none with
  accessFlags := 33
  interfaces := #[]
  cf := some (fileOf pool0 8 #[] #[{ accessFlags := 1, nameIndex := 5, descriptorIndex := 6, attributes := #[] }] 33 0 #[] #[])
  fields := #[]
  methods := #[k0m0]
  instanceTypes := #[]
  staticTypes := #[]
  resolved := Array.replicate 124 none
  statics := none }

def pool1 : Array CpInfo := pool [(2, .class_ 4), (1, u "java/lang/Object"), (0, u "<init>"), (0, u "()V"), (0, .methodref 8 9), (0, .class_ 10), (0, .nameAndType 11 12), (0, u "java/lang/String"), (0, u "charAt"), (0, u "(I)C"), (0, .methodref 14 15), (0, .class_ 16), (0, .nameAndType 17 18), (0, u "com/example/strict_crosswalk/strictcrosswalk/forms/DoiCaseFoldedPinLaw"), (0, u "fold"), (0, u "(C)C"), (0, .integer 2147483647), (0, .integer 65535), (0, .methodref 8 22), (0, .nameAndType 5 23), (0, u "([C)V"), (0, .methodref 25 26), (0, .class_ 27), (0, .nameAndType 28 29), (0, u "com/example/strict_crosswalk/strictcrosswalk/forms/Doi"), (0, u "caseFolded"), (0, u "(Ljava/lang/String;)Ljava/lang/String;"), (0, .methodref 8 31), (0, .nameAndType 32 33), (0, u "length"), (0, u "()I"), (0, .methodref 14 35), (0, .nameAndType 36 37), (0, u "at"), (0, u "(Ljava/lang/String;[CI)Z"), (3, u "law"), (0, u "(III)Z")] 4

def k1m0 : Method := { name := "<init>", desc := "()V", sig := { parameters := [], returnType := none }, accessFlags := 2, code := none }
def k1c1 : Code := { maxStack := 2, maxLocals := 1, code := method_2_code, exceptionTable := #[], attributes := #[] }
def k1m1 : Method := { name := "fold", desc := "(C)C", sig := { parameters := [.char], returnType := some .char }, accessFlags := 10, code := some k1c1 }
def k1c2 : Code := { maxStack := 3, maxLocals := 3, code := method_3_code, exceptionTable := #[], attributes := #[] }
def k1m2 : Method := { name := "at", desc := "(Ljava/lang/String;[CI)Z", sig := { parameters := [(.object "java/lang/String"), (.array .char), .int], returnType := some .boolean }, accessFlags := 10, code := some k1c2 }
def k1c3 : Code := { maxStack := 4, maxLocals := 6, code := code, exceptionTable := #[], attributes := #[] }
def k1m3 : Method := { name := "law", desc := "(III)Z", sig := { parameters := [.int, .int, .int], returnType := some .boolean }, accessFlags := 9, code := some k1c3 }
/-- com/example/strict_crosswalk/strictcrosswalk/forms/DoiCaseFoldedPinLaw -/
def k1 : Class := { plain "com/example/strict_crosswalk/strictcrosswalk/forms/DoiCaseFoldedPinLaw" (some 0) with
  accessFlags := 49
  interfaces := #[]
  cf := some (fileOf pool1 14 #[] #[{ accessFlags := 2, nameIndex := 5, descriptorIndex := 6, attributes := #[] }, { accessFlags := 10, nameIndex := 17, descriptorIndex := 18, attributes := #[] }, { accessFlags := 10, nameIndex := 36, descriptorIndex := 37, attributes := #[] }, { accessFlags := 9, nameIndex := 41, descriptorIndex := 42, attributes := #[] }] 49 2 #[] #[])
  fields := #[]
  methods := #[k1m0, k1m1, k1m2, k1m3]
  instanceTypes := #[]
  staticTypes := #[]
  resolved := Array.replicate 47 none
  statics := none }

def pool2 : Array CpInfo := pool [(1, .class_ 2), (0, u "java/io/Serializable"), (0, .class_ 4), (0, u "java/lang/Object")] 2

/-- java/io/Serializable -/
def k2 : Class := { plain "java/io/Serializable" (some 0) with
  accessFlags := 1537
  interfaces := #[]
  cf := some (fileOf pool2 1 #[] #[] 1537 3 #[] #[])
  fields := #[]
  methods := #[]
  instanceTypes := #[]
  staticTypes := #[]
  resolved := Array.replicate 7 none
  statics := none }

def pool3 : Array CpInfo := pool [(1, .class_ 2), (0, u "java/lang/Comparable"), (0, .class_ 4), (0, u "java/lang/Object")] 7

/-- java/lang/Comparable -/
def k3 : Class := { plain "java/lang/Comparable" (some 0) with
  accessFlags := 1537
  interfaces := #[]
  cf := some (fileOf pool3 1 #[] #[] 1537 3 #[] #[])
  fields := #[]
  methods := #[]
  instanceTypes := #[]
  staticTypes := #[]
  resolved := Array.replicate 12 none
  statics := none }

def pool4 : Array CpInfo := pool [(2, .class_ 4), (1, u "java/lang/CharSequence"), (42, .class_ 48), (0, u "java/lang/CharSequence$1CodePointIterator"), (10, .class_ 60), (0, u "java/lang/CharSequence$1CharIterator"), (5, .class_ 67), (0, u "java/lang/Object")] 63

/-- java/lang/CharSequence -/
def k4 : Class := { plain "java/lang/CharSequence" (some 0) with
  accessFlags := 1537
  interfaces := #[]
  cf := some (fileOf pool4 2 #[.nestMembers #[47, 59]] #[] 1537 66 #[] #[])
  fields := #[]
  methods := #[]
  instanceTypes := #[]
  staticTypes := #[]
  resolved := Array.replicate 131 none
  statics := none }

def pool5 : Array CpInfo := pool [(1, .class_ 2), (0, u "java/lang/constant/Constable"), (0, .class_ 4), (0, u "java/lang/Object")] 6

/-- java/lang/constant/Constable -/
def k5 : Class := { plain "java/lang/constant/Constable" (some 0) with
  accessFlags := 1537
  interfaces := #[]
  cf := some (fileOf pool5 1 #[] #[] 1537 3 #[] #[])
  fields := #[]
  methods := #[]
  instanceTypes := #[]
  staticTypes := #[]
  resolved := Array.replicate 11 none
  statics := none }

def pool6 : Array CpInfo := pool [(1, .class_ 2), (0, u "java/lang/constant/ConstantDesc"), (0, .class_ 4), (0, u "java/lang/Object")] 32

/-- java/lang/constant/ConstantDesc -/
def k6 : Class := { plain "java/lang/constant/ConstantDesc" (some 0) with
  accessFlags := 1537
  interfaces := #[]
  cf := some (fileOf pool6 1 #[] #[] 1537 3 #[] #[])
  fields := #[]
  methods := #[]
  instanceTypes := #[]
  staticTypes := #[]
  resolved := Array.replicate 37 none
  statics := none }

def pool7 : Array CpInfo := pool [(1, .methodref 2 3), (0, .class_ 4), (0, .nameAndType 5 6), (0, u "java/lang/Object"), (0, u "<init>"), (0, u "()V"), (0, .string 8), (0, u ""), (0, .fieldref 10 11), (0, .class_ 12), (0, .nameAndType 13 14), (0, u "java/lang/String"), (0, u "value"), (0, u "[B"), (0, .fieldref 10 16), (0, .nameAndType 17 18), (0, u "coder"), (0, u "B"), (2, u "hash"), (0, u "I"), (2, u "hashIsZero"), (0, u "Z"), (0, .methodref 10 28), (0, .nameAndType 5 29), (0, u "([CIILjava/lang/Void;)V"), (6, u "checkBoundsOffCount"), (0, u "(III)I"), (0, .fieldref 10 39), (0, .nameAndType 40 26), (0, u "COMPACT_STRINGS"), (1, .class_ 44), (1, u "java/lang/StringUTF16"), (0, u "compress"), (1, .methodref 42 48), (0, .nameAndType 49 50), (0, u "coderFromArrayLen"), (0, u "([BI)B"), (56, .class_ 109), (1, u "java/lang/StringLatin1"), (32, u "()Z"), (34, .methodref 42 178), (0, .nameAndType 45 179), (0, u "([CII)[B"), (119, .methodref 107 300), (0, .nameAndType 301 302), (0, u "toChars"), (0, u "([B)[C"), (0, .methodref 42 300), (30, u "()I"), (0, .methodref 10 336), (0, .nameAndType 17 337), (0, u "()B"), (25, u "([BI)C"), (27, u "(II)V"), (35, u "(I)C"), (64, .methodref 10 493), (0, .nameAndType 494 142), (0, u "isLatin1"), (0, .methodref 107 496), (0, .nameAndType 497 363), (0, u "charAt"), (0, .methodref 42 496), (2, u "checkIndex"), (5, u "length"), (67, .class_ 576), (0, u "java/lang/CharSequence"), (22, u "CASE_INSENSITIVE_ORDER"), (0, u "Ljava/util/Comparator;"), (354, u "toCharArray"), (0, u "()[C"), (53, u "([C)V"), (42, .fieldref 1054 1055), (0, .class_ 1056), (0, .nameAndType 1057 1058), (0, u "jdk/internal/util/Preconditions"), (0, u "SIOOBE_FORMATTER"), (0, u "Ljava/util/function/BiFunction;"), (0, .methodref 1054 1060), (0, .nameAndType 501 1061), (0, u "(IILjava/util/function/BiFunction;)I"), (2, u "(IIILjava/util/function/BiFunction;)I"), (0, .methodref 1054 1066), (0, .nameAndType 1067 1064), (0, u "checkFromIndexSize"), (33, u "serialPersistentFields"), (0, u "[Ljava/io/ObjectStreamField;"), (0, .class_ 1104), (0, u "java/lang/String$CaseInsensitiveComparator"), (1, .class_ 1107), (0, u "java/io/Serializable"), (0, .class_ 1109), (0, u "java/lang/Comparable"), (0, .class_ 1111), (0, u "java/lang/constant/Constable"), (0, .class_ 1113), (0, u "java/lang/constant/ConstantDesc"), (2, u "serialVersionUID"), (0, u "J"), (3, u "REPL"), (0, u "C"), (2, u "LATIN1"), (1, u "UTF16")] 323

def k7m0 : Method := { name := "<init>", desc := "()V", sig := { parameters := [], returnType := none }, accessFlags := 1, code := none }
def k7c1 : Code := { maxStack := 5, maxLocals := 2, code := jdk_42_method_3_code, exceptionTable := #[], attributes := #[] }
def k7m1 : Method := { name := "<init>", desc := "([C)V", sig := { parameters := [(.array .char)], returnType := none }, accessFlags := 1, code := some k7c1 }
def k7c2 : Code := { maxStack := 2, maxLocals := 1, code := jdk_42_method_54_code, exceptionTable := #[], attributes := #[] }
def k7m2 : Method := { name := "length", desc := "()I", sig := { parameters := [], returnType := some .int }, accessFlags := 1, code := some k7c2 }
def k7c3 : Code := { maxStack := 2, maxLocals := 2, code := jdk_42_method_56_code, exceptionTable := #[], attributes := #[] }
def k7m3 : Method := { name := "charAt", desc := "(I)C", sig := { parameters := [.int], returnType := some .char }, accessFlags := 1, code := some k7c3 }
def k7c4 : Code := { maxStack := 1, maxLocals := 1, code := jdk_42_method_129_code, exceptionTable := #[], attributes := #[] }
def k7m4 : Method := { name := "toCharArray", desc := "()[C", sig := { parameters := [], returnType := some (.array .char) }, accessFlags := 1, code := some k7c4 }
def k7c5 : Code := { maxStack := 4, maxLocals := 6, code := jdk_42_method_149_code, exceptionTable := #[], attributes := #[] }
def k7m5 : Method := { name := "<init>", desc := "([CIILjava/lang/Void;)V", sig := { parameters := [(.array .char), .int, .int, (.object "java/lang/Void")], returnType := none }, accessFlags := 2, code := some k7c5 }
def k7c6 : Code := { maxStack := 1, maxLocals := 1, code := jdk_42_method_152_code, exceptionTable := #[], attributes := #[] }
def k7m6 : Method := { name := "coder", desc := "()B", sig := { parameters := [], returnType := some .byte }, accessFlags := 0, code := some k7c6 }
def k7c7 : Code := { maxStack := 1, maxLocals := 1, code := jdk_42_method_154_code, exceptionTable := #[], attributes := #[] }
def k7m7 : Method := { name := "isLatin1", desc := "()Z", sig := { parameters := [], returnType := some .boolean }, accessFlags := 0, code := some k7c7 }
def k7c8 : Code := { maxStack := 3, maxLocals := 2, code := jdk_42_method_155_code, exceptionTable := #[], attributes := #[] }
def k7m8 : Method := { name := "checkIndex", desc := "(II)V", sig := { parameters := [.int, .int], returnType := none }, accessFlags := 8, code := some k7c8 }
def k7c9 : Code := { maxStack := 4, maxLocals := 3, code := jdk_42_method_157_code, exceptionTable := #[], attributes := #[] }
def k7m9 : Method := { name := "checkBoundsOffCount", desc := "(III)I", sig := { parameters := [.int, .int, .int], returnType := some .int }, accessFlags := 8, code := some k7c9 }
/-- java/lang/String -/
def k7 : Class := { plain "java/lang/String" (some 0) with
  accessFlags := 49
  interfaces := #[2, 3, 4, 5, 6]
  cf := some (fileOf pool7 10 #[.nestMembers #[1103]] #[{ accessFlags := 1, nameIndex := 5, descriptorIndex := 6, attributes := #[] }, { accessFlags := 1, nameIndex := 5, descriptorIndex := 1010, attributes := #[] }, { accessFlags := 1, nameIndex := 507, descriptorIndex := 334, attributes := #[] }, { accessFlags := 1, nameIndex := 497, descriptorIndex := 427, attributes := #[] }, { accessFlags := 1, nameIndex := 955, descriptorIndex := 956, attributes := #[] }, { accessFlags := 2, nameIndex := 5, descriptorIndex := 29, attributes := #[] }, { accessFlags := 0, nameIndex := 17, descriptorIndex := 337, attributes := #[] }, { accessFlags := 0, nameIndex := 494, descriptorIndex := 142, attributes := #[] }, { accessFlags := 8, nameIndex := 501, descriptorIndex := 391, attributes := #[] }, { accessFlags := 8, nameIndex := 36, descriptorIndex := 37, attributes := #[] }] 49 2 #[1106, 1108, 575, 1110, 1112] #[{ accessFlags := 18, nameIndex := 13, descriptorIndex := 14, attributes := #[] }, { accessFlags := 18, nameIndex := 17, descriptorIndex := 18, attributes := #[] }, { accessFlags := 2, nameIndex := 21, descriptorIndex := 22, attributes := #[] }, { accessFlags := 2, nameIndex := 25, descriptorIndex := 26, attributes := #[] }, { accessFlags := 26, nameIndex := 1116, descriptorIndex := 1117, attributes := #[] }, { accessFlags := 24, nameIndex := 40, descriptorIndex := 26, attributes := #[] }, { accessFlags := 26, nameIndex := 1101, descriptorIndex := 1102, attributes := #[] }, { accessFlags := 26, nameIndex := 1121, descriptorIndex := 1122, attributes := #[] }, { accessFlags := 25, nameIndex := 599, descriptorIndex := 600, attributes := #[] }, { accessFlags := 24, nameIndex := 1125, descriptorIndex := 18, attributes := #[] }, { accessFlags := 24, nameIndex := 1127, descriptorIndex := 18, attributes := #[] }])
  fields := #[{ name := "value", type := (.array .byte), accessFlags := 18, slot := 0, constantValue := 0 }, { name := "coder", type := .byte, accessFlags := 18, slot := 1, constantValue := 0 }, { name := "hash", type := .int, accessFlags := 2, slot := 2, constantValue := 0 }, { name := "hashIsZero", type := .boolean, accessFlags := 2, slot := 3, constantValue := 0 }, { name := "serialVersionUID", type := .long, accessFlags := 26, slot := 0, constantValue := 0 }, { name := "COMPACT_STRINGS", type := .boolean, accessFlags := 24, slot := 1, constantValue := 0 }, { name := "serialPersistentFields", type := (.array (.object "java/io/ObjectStreamField")), accessFlags := 26, slot := 2, constantValue := 0 }, { name := "REPL", type := .char, accessFlags := 26, slot := 3, constantValue := 0 }, { name := "CASE_INSENSITIVE_ORDER", type := (.object "java/util/Comparator"), accessFlags := 25, slot := 4, constantValue := 0 }, { name := "LATIN1", type := .byte, accessFlags := 24, slot := 5, constantValue := 0 }, { name := "UTF16", type := .byte, accessFlags := 24, slot := 6, constantValue := 0 }]
  methods := #[k7m0, k7m1, k7m2, k7m3, k7m4, k7m5, k7m6, k7m7, k7m8, k7m9]
  instanceTypes := #[(.array .byte), .byte, .int, .boolean]
  staticTypes := #[.long, .boolean, (.array (.object "java/io/ObjectStreamField")), .char, (.object "java/util/Comparator"), .byte, .byte]
  resolved := Array.replicate 1451 none
  statics := some 0 }

def pool8 : Array CpInfo := pool [(3, .class_ 4), (0, u "java/lang/String"), (1, .class_ 8), (1, u "java/lang/Object"), (0, u "<init>"), (0, u "()V"), (0, .methodref 12 13), (0, .class_ 14), (0, .nameAndType 15 16), (0, u "java/lang/StringUTF16"), (0, u "newBytesLength"), (0, u "(I)I"), (3, .integer 1073741823), (23, .fieldref 12 45), (0, .nameAndType 46 47), (0, u "$assertionsDisabled"), (0, u "Z"), (0, .methodref 12 49), (0, .nameAndType 50 51), (0, u "length"), (0, u "([B)I"), (7, .fieldref 12 60), (0, .nameAndType 61 62), (0, u "HI_BYTE_SHIFT"), (0, u "I"), (0, .fieldref 12 64), (0, .nameAndType 65 62), (0, u "LO_BYTE_SHIFT"), (1, .methodref 12 68), (0, .nameAndType 69 70), (0, u "checkIndex"), (0, u "(I[B)V"), (0, .methodref 12 72), (0, .nameAndType 73 74), (0, u "getChar"), (0, u "([BI)C"), (24, u "(II[B)V"), (3, .methodref 12 104), (0, .nameAndType 105 106), (0, u "getChars"), (0, u "([BII[CI)V"), (0, .methodref 12 108), (0, .nameAndType 109 110), (0, u "newBytesFor"), (0, u "(I)[B"), (0, .methodref 12 112), (0, .nameAndType 113 114), (0, u "putChar"), (0, u "([BII)V"), (0, .methodref 12 116), (0, .nameAndType 117 118), (0, u "compress"), (0, u "([CI[BII)I"), (0, .methodref 12 120), (0, .nameAndType 121 122), (0, u "toBytes"), (0, u "([CII)[B"), (50, .methodref 12 174), (0, .nameAndType 175 99), (0, u "checkBoundsOffCount"), (85, u "coderFromArrayLen"), (0, u "([BI)B"), (18, u "(III)I"), (60, u "toChars"), (26, .class_ 371), (1, u "java/lang/StringUTF16$LinesSpliterator"), (20, u "charAt"), (21, .methodref 3 415), (0, .nameAndType 69 416), (0, u "(II)V"), (2, .methodref 3 420), (0, .nameAndType 175 281), (9, u "MAX_LENGTH"), (23, u "([B)[C"), (172, .class_ 628), (0, u "java/lang/StringUTF16$CodePointsSpliterator"), (0, .class_ 630), (0, u "java/lang/StringUTF16$CharsSpliterator")] 4

def k8m0 : Method := { name := "<init>", desc := "()V", sig := { parameters := [], returnType := none }, accessFlags := 0, code := none }
def k8c1 : Code := { maxStack := 1, maxLocals := 1, code := jdk_52_method_2_code, exceptionTable := #[], attributes := #[] }
def k8m1 : Method := { name := "newBytesFor", desc := "(I)[B", sig := { parameters := [.int], returnType := some (.array .byte) }, accessFlags := 9, code := some k8c1 }
def k8c2 : Code := { maxStack := 4, maxLocals := 1, code := jdk_52_method_3_code, exceptionTable := #[], attributes := #[] }
def k8m2 : Method := { name := "newBytesLength", desc := "(I)I", sig := { parameters := [.int], returnType := some .int }, accessFlags := 9, code := some k8c2 }
def k8c3 : Code := { maxStack := 4, maxLocals := 3, code := jdk_52_method_4_code, exceptionTable := #[], attributes := #[] }
def k8m3 : Method := { name := "putChar", desc := "([BII)V", sig := { parameters := [(.array .byte), .int, .int], returnType := none }, accessFlags := 8, code := some k8c3 }
def k8c4 : Code := { maxStack := 3, maxLocals := 2, code := jdk_52_method_5_code, exceptionTable := #[], attributes := #[] }
def k8m4 : Method := { name := "getChar", desc := "([BI)C", sig := { parameters := [(.array .byte), .int], returnType := some .char }, accessFlags := 8, code := some k8c4 }
def k8c5 : Code := { maxStack := 2, maxLocals := 1, code := jdk_52_method_6_code, exceptionTable := #[], attributes := #[] }
def k8m5 : Method := { name := "length", desc := "([B)I", sig := { parameters := [(.array .byte)], returnType := some .int }, accessFlags := 9, code := some k8c5 }
def k8c6 : Code := { maxStack := 5, maxLocals := 2, code := jdk_52_method_13_code, exceptionTable := #[], attributes := #[] }
def k8m6 : Method := { name := "toChars", desc := "([B)[C", sig := { parameters := [(.array .byte)], returnType := some (.array .char) }, accessFlags := 9, code := some k8c6 }
def k8c7 : Code := { maxStack := 4, maxLocals := 5, code := jdk_52_method_14_code, exceptionTable := #[], attributes := #[] }
def k8m7 : Method := { name := "toBytes", desc := "([CII)[B", sig := { parameters := [(.array .char), .int, .int], returnType := some (.array .byte) }, accessFlags := 9, code := some k8c7 }
def k8c8 : Code := { maxStack := 2, maxLocals := 2, code := jdk_52_method_15_code, exceptionTable := #[], attributes := #[] }
def k8m8 : Method := { name := "coderFromArrayLen", desc := "([BI)B", sig := { parameters := [(.array .byte), .int], returnType := some .byte }, accessFlags := 8, code := some k8c8 }
def k8c9 : Code := { maxStack := 5, maxLocals := 6, code := jdk_52_method_16_code, exceptionTable := #[], attributes := #[] }
def k8m9 : Method := { name := "compress", desc := "([CII)[B", sig := { parameters := [(.array .char), .int, .int], returnType := some (.array .byte) }, accessFlags := 9, code := some k8c9 }
def k8c10 : Code := { maxStack := 3, maxLocals := 7, code := jdk_52_method_21_code, exceptionTable := #[], attributes := #[] }
def k8m10 : Method := { name := "compress", desc := "([CI[BII)I", sig := { parameters := [(.array .char), .int, (.array .byte), .int, .int], returnType := some .int }, accessFlags := 9, code := some k8c10 }
def k8c11 : Code := { maxStack := 4, maxLocals := 6, code := jdk_52_method_26_code, exceptionTable := #[], attributes := #[] }
def k8m11 : Method := { name := "getChars", desc := "([BII[CI)V", sig := { parameters := [(.array .byte), .int, .int, (.array .char), .int], returnType := none }, accessFlags := 9, code := some k8c11 }
def k8c12 : Code := { maxStack := 2, maxLocals := 2, code := jdk_52_method_83_code, exceptionTable := #[], attributes := #[] }
def k8m12 : Method := { name := "charAt", desc := "([BI)C", sig := { parameters := [(.array .byte), .int], returnType := some .char }, accessFlags := 9, code := some k8c12 }
def k8c13 : Code := { maxStack := 2, maxLocals := 2, code := jdk_52_method_91_code, exceptionTable := #[], attributes := #[] }
def k8m13 : Method := { name := "checkIndex", desc := "(I[B)V", sig := { parameters := [.int, (.array .byte)], returnType := none }, accessFlags := 9, code := some k8c13 }
def k8c14 : Code := { maxStack := 3, maxLocals := 3, code := jdk_52_method_94_code, exceptionTable := #[], attributes := #[] }
def k8m14 : Method := { name := "checkBoundsOffCount", desc := "(II[B)V", sig := { parameters := [.int, .int, (.array .byte)], returnType := none }, accessFlags := 9, code := some k8c14 }
/-- java/lang/StringUTF16 -/
def k8 : Class := { plain "java/lang/StringUTF16" (some 0) with
  accessFlags := 48
  interfaces := #[]
  cf := some (fileOf pool8 12 #[.nestMembers #[627, 629, 369]] #[{ accessFlags := 0, nameIndex := 9, descriptorIndex := 10, attributes := #[] }, { accessFlags := 9, nameIndex := 109, descriptorIndex := 110, attributes := #[] }, { accessFlags := 9, nameIndex := 15, descriptorIndex := 16, attributes := #[] }, { accessFlags := 8, nameIndex := 113, descriptorIndex := 114, attributes := #[] }, { accessFlags := 8, nameIndex := 73, descriptorIndex := 74, attributes := #[] }, { accessFlags := 9, nameIndex := 50, descriptorIndex := 51, attributes := #[] }, { accessFlags := 9, nameIndex := 342, descriptorIndex := 454, attributes := #[] }, { accessFlags := 9, nameIndex := 121, descriptorIndex := 122, attributes := #[] }, { accessFlags := 8, nameIndex := 261, descriptorIndex := 262, attributes := #[] }, { accessFlags := 9, nameIndex := 117, descriptorIndex := 122, attributes := #[] }, { accessFlags := 9, nameIndex := 117, descriptorIndex := 118, attributes := #[] }, { accessFlags := 9, nameIndex := 105, descriptorIndex := 106, attributes := #[] }, { accessFlags := 9, nameIndex := 392, descriptorIndex := 74, attributes := #[] }, { accessFlags := 9, nameIndex := 69, descriptorIndex := 70, attributes := #[] }, { accessFlags := 9, nameIndex := 175, descriptorIndex := 99, attributes := #[] }] 48 6 #[] #[{ accessFlags := 26, nameIndex := 61, descriptorIndex := 62, attributes := #[] }, { accessFlags := 26, nameIndex := 65, descriptorIndex := 62, attributes := #[] }, { accessFlags := 24, nameIndex := 430, descriptorIndex := 62, attributes := #[] }, { accessFlags := 4120, nameIndex := 46, descriptorIndex := 47, attributes := #[] }])
  fields := #[{ name := "HI_BYTE_SHIFT", type := .int, accessFlags := 26, slot := 0, constantValue := 0 }, { name := "LO_BYTE_SHIFT", type := .int, accessFlags := 26, slot := 1, constantValue := 0 }, { name := "MAX_LENGTH", type := .int, accessFlags := 24, slot := 2, constantValue := 0 }, { name := "$assertionsDisabled", type := .boolean, accessFlags := 4120, slot := 3, constantValue := 0 }]
  methods := #[k8m0, k8m1, k8m2, k8m3, k8m4, k8m5, k8m6, k8m7, k8m8, k8m9, k8m10, k8m11, k8m12, k8m13, k8m14]
  instanceTypes := #[]
  staticTypes := #[.int, .int, .int, .boolean]
  resolved := Array.replicate 635 none
  statics := some 1 }

def pool9 : Array CpInfo := pool [(2, .class_ 4), (1, u "java/lang/Object"), (0, u "<init>"), (0, u "()V"), (1, .class_ 10), (1, u "com/example/strict_crosswalk/strictcrosswalk/forms/Doi"), (0, u "PREFIXES"), (0, u "Ljava/util/List;"), (16, .class_ 30), (0, u "java/lang/String"), (15, u "(Ljava/lang/String;)Ljava/lang/String;"), (6, u "caseFolded"), (0, .methodref 29 55), (0, .nameAndType 56 57), (0, u "toCharArray"), (0, u "()[C"), (0, .methodref 29 59), (0, .nameAndType 5 60), (0, u "([C)V"), (10, u "CANONICAL_PREFIX"), (0, u "Ljava/lang/String;")] 14

def k9m0 : Method := { name := "<init>", desc := "()V", sig := { parameters := [], returnType := none }, accessFlags := 2, code := none }
def k9c1 : Code := { maxStack := 4, maxLocals := 3, code := prog_16_method_5_code, exceptionTable := #[], attributes := #[] }
def k9m1 : Method := { name := "caseFolded", desc := "(Ljava/lang/String;)Ljava/lang/String;", sig := { parameters := [(.object "java/lang/String")], returnType := some (.object "java/lang/String") }, accessFlags := 9, code := some k9c1 }
/-- com/example/strict_crosswalk/strictcrosswalk/forms/Doi -/
def k9 : Class := { plain "com/example/strict_crosswalk/strictcrosswalk/forms/Doi" (some 0) with
  accessFlags := 33
  interfaces := #[]
  cf := some (fileOf pool9 8 #[] #[{ accessFlags := 2, nameIndex := 5, descriptorIndex := 6, attributes := #[] }, { accessFlags := 9, nameIndex := 53, descriptorIndex := 46, attributes := #[] }] 33 2 #[] #[{ accessFlags := 25, nameIndex := 71, descriptorIndex := 72, attributes := #[] }, { accessFlags := 24, nameIndex := 11, descriptorIndex := 12, attributes := #[] }])
  fields := #[{ name := "CANONICAL_PREFIX", type := (.object "java/lang/String"), accessFlags := 25, slot := 0, constantValue := 0 }, { name := "PREFIXES", type := (.object "java/util/List"), accessFlags := 24, slot := 1, constantValue := 0 }]
  methods := #[k9m0, k9m1]
  instanceTypes := #[]
  staticTypes := #[(.object "java/lang/String"), (.object "java/util/List")]
  resolved := Array.replicate 87 none
  statics := none }

def pool10 : Array CpInfo := pool [(1, .class_ 2), (0, u "java/lang/String"), (1, .class_ 6), (1, u "java/lang/Object"), (0, u "<init>"), (0, u "()V"), (0, .methodref 1 10), (0, .nameAndType 11 12), (0, u "checkIndex"), (0, u "(II)V"), (0, .methodref 14 15), (0, .class_ 16), (0, .nameAndType 17 18), (0, u "java/lang/StringLatin1"), (0, u "inflate"), (0, u "([BI[CII)V"), (34, u "([BI)C"), (67, u "$assertionsDisabled"), (0, u "Z"), (69, u "toChars"), (28, .class_ 223), (1, u "java/lang/StringLatin1$LinesSpliterator"), (28, u "charAt"), (15, u "([B)[C"), (121, .class_ 391), (0, u "java/lang/StringLatin1$CharsSpliterator")] 3

def k10m0 : Method := { name := "<init>", desc := "()V", sig := { parameters := [], returnType := none }, accessFlags := 0, code := none }
def k10c1 : Code := { maxStack := 2, maxLocals := 2, code := jdk_43_method_2_code, exceptionTable := #[], attributes := #[] }
def k10m1 : Method := { name := "charAt", desc := "([BI)C", sig := { parameters := [(.array .byte), .int], returnType := some .char }, accessFlags := 9, code := some k10c1 }
def k10c2 : Code := { maxStack := 5, maxLocals := 2, code := jdk_43_method_9_code, exceptionTable := #[], attributes := #[] }
def k10m2 : Method := { name := "toChars", desc := "([B)[C", sig := { parameters := [(.array .byte)], returnType := some (.array .char) }, accessFlags := 9, code := some k10c2 }
def k10c3 : Code := { maxStack := 4, maxLocals := 6, code := jdk_43_method_49_code, exceptionTable := #[], attributes := #[] }
def k10m3 : Method := { name := "inflate", desc := "([BI[CII)V", sig := { parameters := [(.array .byte), .int, (.array .char), .int, .int], returnType := none }, accessFlags := 9, code := some k10c3 }
/-- java/lang/StringLatin1 -/
def k10 : Class := { plain "java/lang/StringLatin1" (some 0) with
  accessFlags := 48
  interfaces := #[]
  cf := some (fileOf pool10 14 #[.nestMembers #[390, 221]] #[{ accessFlags := 0, nameIndex := 7, descriptorIndex := 8, attributes := #[] }, { accessFlags := 9, nameIndex := 252, descriptorIndex := 53, attributes := #[] }, { accessFlags := 9, nameIndex := 192, descriptorIndex := 268, attributes := #[] }, { accessFlags := 9, nameIndex := 17, descriptorIndex := 18, attributes := #[] }] 48 4 #[] #[{ accessFlags := 4120, nameIndex := 121, descriptorIndex := 122, attributes := #[] }])
  fields := #[{ name := "$assertionsDisabled", type := .boolean, accessFlags := 4120, slot := 0, constantValue := 0 }]
  methods := #[k10m0, k10m1, k10m2, k10m3]
  instanceTypes := #[]
  staticTypes := #[.boolean]
  resolved := Array.replicate 395 none
  statics := none }

def pool11 : Array CpInfo := pool [(2, .class_ 4), (1, u "java/lang/Object"), (0, u "<init>"), (0, u "()V"), (17, .class_ 26), (1, u "jdk/internal/util/Preconditions"), (6, u "checkIndex"), (15, u "checkFromIndexSize"), (5, .class_ 56), (0, u "jdk/internal/util/Preconditions$4"), (57, .class_ 115), (0, u "jdk/internal/util/Preconditions$1"), (7, u "SIOOBE_FORMATTER"), (0, u "Ljava/util/function/BiFunction;"), (0, .class_ 126), (0, u "jdk/internal/util/Preconditions$2"), (3, u "AIOOBE_FORMATTER"), (0, .class_ 132), (0, u "jdk/internal/util/Preconditions$3"), (3, u "IOOBE_FORMATTER"), (41, u "(IILjava/util/function/BiFunction;)I"), (4, u "(IIILjava/util/function/BiFunction;)I")] 10

def k11m0 : Method := { name := "<init>", desc := "()V", sig := { parameters := [], returnType := none }, accessFlags := 1, code := none }
def k11c1 : Code := { maxStack := 3, maxLocals := 3, code := jdk_41_method_11_code, exceptionTable := #[], attributes := #[] }
def k11m1 : Method := { name := "checkIndex", desc := "(IILjava/util/function/BiFunction;)I", sig := { parameters := [.int, .int, (.object "java/util/function/BiFunction")], returnType := some .int }, accessFlags := 9, code := some k11c1 }
def k11c2 : Code := { maxStack := 4, maxLocals := 4, code := jdk_41_method_13_code, exceptionTable := #[], attributes := #[] }
def k11m2 : Method := { name := "checkFromIndexSize", desc := "(IIILjava/util/function/BiFunction;)I", sig := { parameters := [.int, .int, .int, (.object "java/util/function/BiFunction")], returnType := some .int }, accessFlags := 9, code := some k11c2 }
/-- jdk/internal/util/Preconditions -/
def k11 : Class := { plain "jdk/internal/util/Preconditions" (some 0) with
  accessFlags := 33
  interfaces := #[]
  cf := some (fileOf pool11 24 #[.nestMembers #[55, 131, 125, 114]] #[{ accessFlags := 1, nameIndex := 5, descriptorIndex := 6, attributes := #[] }, { accessFlags := 9, nameIndex := 33, descriptorIndex := 178, attributes := #[] }, { accessFlags := 9, nameIndex := 49, descriptorIndex := 183, attributes := #[] }] 33 2 #[] #[{ accessFlags := 25, nameIndex := 123, descriptorIndex := 124, attributes := #[] }, { accessFlags := 25, nameIndex := 130, descriptorIndex := 124, attributes := #[] }, { accessFlags := 25, nameIndex := 136, descriptorIndex := 124, attributes := #[] }])
  fields := #[{ name := "SIOOBE_FORMATTER", type := (.object "java/util/function/BiFunction"), accessFlags := 25, slot := 0, constantValue := 0 }, { name := "AIOOBE_FORMATTER", type := (.object "java/util/function/BiFunction"), accessFlags := 25, slot := 1, constantValue := 0 }, { name := "IOOBE_FORMATTER", type := (.object "java/util/function/BiFunction"), accessFlags := 25, slot := 2, constantValue := 0 }]
  methods := #[k11m0, k11m1, k11m2]
  instanceTypes := #[]
  staticTypes := #[(.object "java/util/function/BiFunction"), (.object "java/util/function/BiFunction"), (.object "java/util/function/BiFunction")]
  resolved := Array.replicate 194 none
  statics := some 2 }

def pool12 : Array CpInfo := pool [(9, u "<init>"), (6, .class_ 18), (1, u "java/lang/Object"), (0, u "()V"), (1, .class_ 23), (1, u "jdk/internal/util/ArraysSupport"), (0, u "LOG2_ARRAY_LONG_INDEX_SCALE"), (0, u "I"), (2, u "U"), (0, u "Ljdk/internal/misc/Unsafe;"), (8, u "BIG_ENDIAN"), (0, u "Z"), (8, u "LOG2_BYTE_BIT_SIZE"), (4, u "LOG2_ARRAY_INT_INDEX_SCALE"), (54, u "JLA"), (0, u "Ljdk/internal/access/JavaLangAccess;"), (11, u "LOG2_ARRAY_BOOLEAN_INDEX_SCALE"), (9, u "LOG2_ARRAY_BYTE_INDEX_SCALE"), (5, u "LOG2_ARRAY_CHAR_INDEX_SCALE"), (5, u "LOG2_ARRAY_SHORT_INDEX_SCALE"), (18, u "LOG2_ARRAY_FLOAT_INDEX_SCALE"), (24, u "LOG2_ARRAY_DOUBLE_INDEX_SCALE"), (89, u "T_BOOLEAN"), (2, u "T_CHAR"), (1, u "T_FLOAT"), (1, u "T_DOUBLE"), (1, u "T_BYTE"), (1, u "T_SHORT"), (1, u "T_INT"), (1, u "T_LONG"), (1, u "SOFT_MAX_ARRAY_LENGTH")] 83

def k12m0 : Method := { name := "<init>", desc := "()V", sig := { parameters := [], returnType := none }, accessFlags := 2, code := none }
/-- jdk/internal/util/ArraysSupport -/
def k12 : Class := { plain "jdk/internal/util/ArraysSupport" (some 0) with
  accessFlags := 33
  interfaces := #[]
  cf := some (fileOf pool12 21 #[] #[{ accessFlags := 2, nameIndex := 9, descriptorIndex := 19, attributes := #[] }] 33 16 #[] #[{ accessFlags := 24, nameIndex := 28, descriptorIndex := 29, attributes := #[] }, { accessFlags := 26, nameIndex := 38, descriptorIndex := 39, attributes := #[] }, { accessFlags := 25, nameIndex := 121, descriptorIndex := 25, attributes := #[] }, { accessFlags := 25, nameIndex := 131, descriptorIndex := 25, attributes := #[] }, { accessFlags := 25, nameIndex := 137, descriptorIndex := 25, attributes := #[] }, { accessFlags := 25, nameIndex := 143, descriptorIndex := 25, attributes := #[] }, { accessFlags := 25, nameIndex := 53, descriptorIndex := 25, attributes := #[] }, { accessFlags := 25, nameIndex := 24, descriptorIndex := 25, attributes := #[] }, { accessFlags := 25, nameIndex := 162, descriptorIndex := 25, attributes := #[] }, { accessFlags := 25, nameIndex := 187, descriptorIndex := 25, attributes := #[] }, { accessFlags := 26, nameIndex := 48, descriptorIndex := 25, attributes := #[] }, { accessFlags := 25, nameIndex := 277, descriptorIndex := 25, attributes := #[] }, { accessFlags := 25, nameIndex := 280, descriptorIndex := 25, attributes := #[] }, { accessFlags := 25, nameIndex := 282, descriptorIndex := 25, attributes := #[] }, { accessFlags := 25, nameIndex := 284, descriptorIndex := 25, attributes := #[] }, { accessFlags := 25, nameIndex := 286, descriptorIndex := 25, attributes := #[] }, { accessFlags := 25, nameIndex := 288, descriptorIndex := 25, attributes := #[] }, { accessFlags := 25, nameIndex := 290, descriptorIndex := 25, attributes := #[] }, { accessFlags := 25, nameIndex := 292, descriptorIndex := 25, attributes := #[] }, { accessFlags := 26, nameIndex := 108, descriptorIndex := 109, attributes := #[] }, { accessFlags := 25, nameIndex := 294, descriptorIndex := 25, attributes := #[] }])
  fields := #[{ name := "U", type := (.object "jdk/internal/misc/Unsafe"), accessFlags := 24, slot := 0, constantValue := 0 }, { name := "BIG_ENDIAN", type := .boolean, accessFlags := 26, slot := 1, constantValue := 0 }, { name := "LOG2_ARRAY_BOOLEAN_INDEX_SCALE", type := .int, accessFlags := 25, slot := 2, constantValue := 0 }, { name := "LOG2_ARRAY_BYTE_INDEX_SCALE", type := .int, accessFlags := 25, slot := 3, constantValue := 0 }, { name := "LOG2_ARRAY_CHAR_INDEX_SCALE", type := .int, accessFlags := 25, slot := 4, constantValue := 0 }, { name := "LOG2_ARRAY_SHORT_INDEX_SCALE", type := .int, accessFlags := 25, slot := 5, constantValue := 0 }, { name := "LOG2_ARRAY_INT_INDEX_SCALE", type := .int, accessFlags := 25, slot := 6, constantValue := 0 }, { name := "LOG2_ARRAY_LONG_INDEX_SCALE", type := .int, accessFlags := 25, slot := 7, constantValue := 0 }, { name := "LOG2_ARRAY_FLOAT_INDEX_SCALE", type := .int, accessFlags := 25, slot := 8, constantValue := 0 }, { name := "LOG2_ARRAY_DOUBLE_INDEX_SCALE", type := .int, accessFlags := 25, slot := 9, constantValue := 0 }, { name := "LOG2_BYTE_BIT_SIZE", type := .int, accessFlags := 26, slot := 10, constantValue := 0 }, { name := "T_BOOLEAN", type := .int, accessFlags := 25, slot := 11, constantValue := 0 }, { name := "T_CHAR", type := .int, accessFlags := 25, slot := 12, constantValue := 0 }, { name := "T_FLOAT", type := .int, accessFlags := 25, slot := 13, constantValue := 0 }, { name := "T_DOUBLE", type := .int, accessFlags := 25, slot := 14, constantValue := 0 }, { name := "T_BYTE", type := .int, accessFlags := 25, slot := 15, constantValue := 0 }, { name := "T_SHORT", type := .int, accessFlags := 25, slot := 16, constantValue := 0 }, { name := "T_INT", type := .int, accessFlags := 25, slot := 17, constantValue := 0 }, { name := "T_LONG", type := .int, accessFlags := 25, slot := 18, constantValue := 0 }, { name := "JLA", type := (.object "jdk/internal/access/JavaLangAccess"), accessFlags := 26, slot := 19, constantValue := 0 }, { name := "SOFT_MAX_ARRAY_LENGTH", type := .int, accessFlags := 25, slot := 20, constantValue := 0 }]
  methods := #[k12m0]
  instanceTypes := #[]
  staticTypes := #[(.object "jdk/internal/misc/Unsafe"), .boolean, .int, .int, .int, .int, .int, .int, .int, .int, .int, .int, .int, .int, .int, .int, .int, .int, .int, (.object "jdk/internal/access/JavaLangAccess"), .int]
  resolved := Array.replicate 378 none
  statics := none }

def pool13 : Array CpInfo := pool [(1, u "java/lang/Cloneable"), (0, .class_ 1), (0, u "java/lang/Object"), (0, .class_ 3)] 3

/-- java/lang/Cloneable -/
def k13 : Class := { plain "java/lang/Cloneable" (some 0) with
  accessFlags := 1537
  interfaces := #[]
  cf := some (fileOf pool13 2 #[] #[] 1537 4 #[] #[])
  fields := #[]
  methods := #[]
  instanceTypes := #[]
  staticTypes := #[]
  resolved := Array.replicate 8 none
  statics := none }

/-- the primitive byte -/
def k14 : Class := { plain "byte" none with kind := .primitive 'B', accessFlags := 0x411 }
/-- [B -/
def k15 : Class := { plain "[B" (some 0) with kind := .array 14 .byte, interfaces := #[13, 2], accessFlags := 1041 }

/-- the primitive char -/
def k16 : Class := { plain "char" none with kind := .primitive 'C', accessFlags := 0x411 }
/-- [C -/
def k17 : Class := { plain "[C" (some 0) with kind := .array 16 .char, interfaces := #[13, 2], accessFlags := 1041 }

/-- the primitive int -/
def k18 : Class := { plain "int" none with kind := .primitive 'I', accessFlags := 0x411 }
/-- [I -/
def k19 : Class := { plain "[I" (some 0) with kind := .array 18 .int, interfaces := #[13, 2], accessFlags := 1041 }

def heap : Heap := #[{ cls := 7, slots := #[.long 0, .int 1, .null, .int 0, .null, .int 0, .int 0], vm := .statics 7 },
  { cls := 8, slots := #[.int 0, .int 8, .int 0, .int 1], vm := .statics 8 },
  { cls := 11, slots := #[.null, .null, .null], vm := .statics 11 }]
def classes : Array Class := #[k0, k1, k2, k3, k4, k5, k6, k7, k8, k9, k10, k11, k12, k13, k14, k15, k16, k17, k18, k19]
def interned : List (Array UInt16 × Addr) := []
def slotsUsed : Nat := 14
def theMethod : MethodId := ⟨1, 3⟩
def args0 : Array Value := #[.int 1, .int 2, .int 3]
def aboutOver (below : List Frame) : State where
  vm := { classes := classes, interned := interned.toArray }
  heap := heap
  slotsUsed := slotsUsed
  threads := #[{ frames := .invoking theMethod args0 :: below }]
def below0 : List Frame := [.native { method := ⟨0, 0⟩, args := #[] }]
def about1 : State := aboutOver below0
def p0 : Program := .bare "" "" ""
def e0 : Env := launch0.env 0 0 0
theorem w_frames : about1.frames = Frame.invoking theMethod args0 :: below0 := rfl
set_option maxRecDepth 65536 in
theorem w_args : argsFit about1.vm theMethod args0 = true := by decide +kernel
set_option maxRecDepth 65536 in
theorem w_heap : heapFits about1 = true := by decide +kernel
set_option maxRecDepth 65536 in
theorem w_runnable : about1.curStatus? = some .runnable := by decide +kernel
set_option maxRecDepth 65536 in
theorem w_alone : about1.alone = true := by decide +kernel
set_option maxRecDepth 65536 in
theorem w_named : about1.methodNamed? x = some theMethod := by decide +kernel
set_option maxRecDepth 65536 in
theorem w_hears : about1.hears theMethod below0 = true := by decide +kernel
set_option maxRecDepth 65536 in
theorem w_ripe : about1.ripe theMethod args0 below0 = true := by decide +kernel
theorem w_running : about1.status = .running := rfl
set_option maxRecDepth 65536 in
theorem w_room : about1.hasRoom e0.platform room_1 = true :=
  launch0.hasRoom_least _ room_1 (by decide +kernel) (by decide +kernel) (by decide +kernel) (by decide +kernel) (by decide +kernel) (by decide +kernel)
theorem allAtoms_all (ts : List Jvm.Cond) (a : Array Jvm.Value) (st : Jvm.State) : (allAtoms ts).before a st = ts.all (fun c => c.before a st) := by
  induction ts with
  | nil => rfl
  | cons c t ih =>
    show (Jvm.Cond.and c (allAtoms t)).before a st = _
    rw [Jvm.Cond.before_and, ih, List.all_cons]
def words1 : List Jvm.Cond := Jvm.Cond.code x code maxLocals ret :: tables_1
/-- a 'code' word, met by the world's own term for the bytes: nothing is compared byte by byte -/
theorem code_word {y : MethodName} {bytes : ByteArray} {mx : Nat} {rt : Option FieldType} {a : Array Value} {s : State} {m : MethodId} {meth : Method} {c : Code} (h1 : s.methodNamed? y = some m) (h2 : s.vm.method? m = some meth) (h3 : meth.code = some c) (h4 : c.code = bytes)
    (h5 : (c.maxLocals == mx && c.exceptionTable.isEmpty && decide (c.maxStack ≤ mostOperands) && decide (meth.sig.returnType = rt) && !meth.locks && decide (parseMethodDescriptor y.desc = some meth.sig)) = true) : (Jvm.Cond.code y bytes mx rt).before a s = true := by
  simp only [Bool.and_eq_true, beq_iff_eq, Bool.not_eq_true', decide_eq_true_eq] at h5
  obtain ⟨⟨⟨⟨⟨g1, g2⟩, g3⟩, g4⟩, g5⟩, g6⟩ := h5
  simp [Cond.before, Cond.holds, Cond.value, h1, h2, h3, h4, g1, g2, g3, g4, g5, g6]
def isCode : Jvm.Cond → Bool
  | .code _ _ _ _ => true
  | _ => false
theorem all_split {L : List Jvm.Cond} {P : Jvm.Cond → Bool} (h1 : L.all (fun c => isCode c || P c) = true) (h2 : ∀ c ∈ L.filter isCode, P c = true) : L.all P = true := by
  refine List.all_eq_true.mpr fun c hc => ?_
  have h := List.all_eq_true.mp h1 c hc
  rcases Bool.eq_false_or_eq_true (isCode c) with hi | hi
  · exact h2 c (List.mem_filter.mpr ⟨hc, hi⟩)
  · simpa [hi] using h
set_option maxRecDepth 65536 in
theorem w_c0 : (Jvm.Cond.code x code maxLocals ret).before args0 about1 = true := code_word (m := ⟨1, 3⟩) (meth := k1m3) (c := k1c3) (by decide +kernel) rfl rfl rfl (by decide +kernel)
set_option maxRecDepth 65536 in
theorem w_c1 : (Jvm.Cond.code ({ cls := "java/lang/String", name := "<init>", desc := "([C)V" } : Jvm.MethodName) jdk_42_method_3_code (2 : Nat) (Option.none : Option Jvm.ClassFile.FieldType)).before args0 about1 = true := code_word (m := ⟨7, 1⟩) (meth := k7m1) (c := k7c1) (by decide +kernel) rfl rfl rfl (by decide +kernel)
set_option maxRecDepth 65536 in
theorem w_c2 : (Jvm.Cond.code ({ cls := "java/lang/String", name := "<init>", desc := "([CIILjava/lang/Void;)V" } : Jvm.MethodName) jdk_42_method_149_code (6 : Nat) (Option.none : Option Jvm.ClassFile.FieldType)).before args0 about1 = true := code_word (m := ⟨7, 5⟩) (meth := k7m5) (c := k7c5) (by decide +kernel) rfl rfl rfl (by decide +kernel)
set_option maxRecDepth 65536 in
theorem w_c3 : (Jvm.Cond.code ({ cls := "java/lang/Object", name := "<init>", desc := "()V" } : Jvm.MethodName) object_method_1_code (1 : Nat) (Option.none : Option Jvm.ClassFile.FieldType)).before args0 about1 = true := code_word (m := ⟨0, 0⟩) (meth := k0m0) (c := k0c0) (by decide +kernel) rfl rfl rfl (by decide +kernel)
set_option maxRecDepth 65536 in
theorem w_c4 : (Jvm.Cond.code ({ cls := "java/lang/StringUTF16", name := "compress", desc := "([CII)[B" } : Jvm.MethodName) jdk_52_method_16_code (6 : Nat) (Option.some (Jvm.ClassFile.FieldType.array Jvm.ClassFile.FieldType.byte))).before args0 about1 = true := code_word (m := ⟨8, 9⟩) (meth := k8m9) (c := k8c9) (by decide +kernel) rfl rfl rfl (by decide +kernel)
set_option maxRecDepth 65536 in
theorem w_c5 : (Jvm.Cond.code ({ cls := "java/lang/StringUTF16", name := "compress", desc := "([CI[BII)I" } : Jvm.MethodName) jdk_52_method_21_code (7 : Nat) (Option.some Jvm.ClassFile.FieldType.int)).before args0 about1 = true := code_word (m := ⟨8, 10⟩) (meth := k8m10) (c := k8c10) (by decide +kernel) rfl rfl rfl (by decide +kernel)
set_option maxRecDepth 65536 in
theorem w_c6 : (Jvm.Cond.code ({ cls := "java/lang/StringUTF16", name := "coderFromArrayLen", desc := "([BI)B" } : Jvm.MethodName) jdk_52_method_15_code (2 : Nat) (Option.some Jvm.ClassFile.FieldType.byte)).before args0 about1 = true := code_word (m := ⟨8, 8⟩) (meth := k8m8) (c := k8c8) (by decide +kernel) rfl rfl rfl (by decide +kernel)
set_option maxRecDepth 65536 in
theorem w_c7 : (Jvm.Cond.code ({ cls := "com/example/strict_crosswalk/strictcrosswalk/forms/Doi", name := "caseFolded", desc := "(Ljava/lang/String;)Ljava/lang/String;" } : Jvm.MethodName) prog_16_method_5_code (3 : Nat) (Option.some (Jvm.ClassFile.FieldType.object "java/lang/String"))).before args0 about1 = true := code_word (m := ⟨9, 1⟩) (meth := k9m1) (c := k9c1) (by decide +kernel) rfl rfl rfl (by decide +kernel)
set_option maxRecDepth 65536 in
theorem w_c8 : (Jvm.Cond.code ({ cls := "java/lang/String", name := "toCharArray", desc := "()[C" } : Jvm.MethodName) jdk_42_method_129_code (1 : Nat) (Option.some (Jvm.ClassFile.FieldType.array Jvm.ClassFile.FieldType.char))).before args0 about1 = true := code_word (m := ⟨7, 4⟩) (meth := k7m4) (c := k7c4) (by decide +kernel) rfl rfl rfl (by decide +kernel)
set_option maxRecDepth 65536 in
theorem w_c9 : (Jvm.Cond.code ({ cls := "java/lang/String", name := "isLatin1", desc := "()Z" } : Jvm.MethodName) jdk_42_method_154_code (1 : Nat) (Option.some Jvm.ClassFile.FieldType.boolean)).before args0 about1 = true := code_word (m := ⟨7, 7⟩) (meth := k7m7) (c := k7c7) (by decide +kernel) rfl rfl rfl (by decide +kernel)
set_option maxRecDepth 65536 in
theorem w_c10 : (Jvm.Cond.code ({ cls := "java/lang/StringLatin1", name := "toChars", desc := "([B)[C" } : Jvm.MethodName) jdk_43_method_9_code (2 : Nat) (Option.some (Jvm.ClassFile.FieldType.array Jvm.ClassFile.FieldType.char))).before args0 about1 = true := code_word (m := ⟨10, 2⟩) (meth := k10m2) (c := k10c2) (by decide +kernel) rfl rfl rfl (by decide +kernel)
set_option maxRecDepth 65536 in
theorem w_c11 : (Jvm.Cond.code ({ cls := "java/lang/StringLatin1", name := "inflate", desc := "([BI[CII)V" } : Jvm.MethodName) jdk_43_method_49_code (6 : Nat) (Option.none : Option Jvm.ClassFile.FieldType)).before args0 about1 = true := code_word (m := ⟨10, 3⟩) (meth := k10m3) (c := k10c3) (by decide +kernel) rfl rfl rfl (by decide +kernel)
set_option maxRecDepth 65536 in
theorem w_c12 : (Jvm.Cond.code ({ cls := "java/lang/String", name := "length", desc := "()I" } : Jvm.MethodName) jdk_42_method_54_code (1 : Nat) (Option.some Jvm.ClassFile.FieldType.int)).before args0 about1 = true := code_word (m := ⟨7, 2⟩) (meth := k7m2) (c := k7c2) (by decide +kernel) rfl rfl rfl (by decide +kernel)
set_option maxRecDepth 65536 in
theorem w_c13 : (Jvm.Cond.code ({ cls := "java/lang/String", name := "coder", desc := "()B" } : Jvm.MethodName) jdk_42_method_152_code (1 : Nat) (Option.some Jvm.ClassFile.FieldType.byte)).before args0 about1 = true := code_word (m := ⟨7, 6⟩) (meth := k7m6) (c := k7c6) (by decide +kernel) rfl rfl rfl (by decide +kernel)
set_option maxRecDepth 65536 in
theorem w_c14 : (Jvm.Cond.code ({ cls := "com/example/strict_crosswalk/strictcrosswalk/forms/DoiCaseFoldedPinLaw", name := "at", desc := "(Ljava/lang/String;[CI)Z" } : Jvm.MethodName) method_3_code (3 : Nat) (Option.some Jvm.ClassFile.FieldType.boolean)).before args0 about1 = true := code_word (m := ⟨1, 2⟩) (meth := k1m2) (c := k1c2) (by decide +kernel) rfl rfl rfl (by decide +kernel)
set_option maxRecDepth 65536 in
theorem w_c15 : (Jvm.Cond.code ({ cls := "java/lang/String", name := "charAt", desc := "(I)C" } : Jvm.MethodName) jdk_42_method_56_code (2 : Nat) (Option.some Jvm.ClassFile.FieldType.char)).before args0 about1 = true := code_word (m := ⟨7, 3⟩) (meth := k7m3) (c := k7c3) (by decide +kernel) rfl rfl rfl (by decide +kernel)
set_option maxRecDepth 65536 in
theorem w_c16 : (Jvm.Cond.code ({ cls := "java/lang/StringLatin1", name := "charAt", desc := "([BI)C" } : Jvm.MethodName) jdk_43_method_2_code (2 : Nat) (Option.some Jvm.ClassFile.FieldType.char)).before args0 about1 = true := code_word (m := ⟨10, 1⟩) (meth := k10m1) (c := k10c1) (by decide +kernel) rfl rfl rfl (by decide +kernel)
set_option maxRecDepth 65536 in
theorem w_c17 : (Jvm.Cond.code ({ cls := "java/lang/String", name := "checkIndex", desc := "(II)V" } : Jvm.MethodName) jdk_42_method_155_code (2 : Nat) (Option.none : Option Jvm.ClassFile.FieldType)).before args0 about1 = true := code_word (m := ⟨7, 8⟩) (meth := k7m8) (c := k7c8) (by decide +kernel) rfl rfl rfl (by decide +kernel)
set_option maxRecDepth 65536 in
theorem w_c18 : (Jvm.Cond.code ({ cls := "jdk/internal/util/Preconditions", name := "checkIndex", desc := "(IILjava/util/function/BiFunction;)I" } : Jvm.MethodName) jdk_41_method_11_code (3 : Nat) (Option.some Jvm.ClassFile.FieldType.int)).before args0 about1 = true := code_word (m := ⟨11, 1⟩) (meth := k11m1) (c := k11c1) (by decide +kernel) rfl rfl rfl (by decide +kernel)
set_option maxRecDepth 65536 in
theorem w_c19 : (Jvm.Cond.code ({ cls := "com/example/strict_crosswalk/strictcrosswalk/forms/DoiCaseFoldedPinLaw", name := "fold", desc := "(C)C" } : Jvm.MethodName) method_2_code (1 : Nat) (Option.some Jvm.ClassFile.FieldType.char)).before args0 about1 = true := code_word (m := ⟨1, 1⟩) (meth := k1m1) (c := k1c1) (by decide +kernel) rfl rfl rfl (by decide +kernel)
set_option maxRecDepth 65536 in
theorem w_c20 : (Jvm.Cond.code ({ cls := "java/lang/StringUTF16", name := "toBytes", desc := "([CII)[B" } : Jvm.MethodName) jdk_52_method_14_code (5 : Nat) (Option.some (Jvm.ClassFile.FieldType.array Jvm.ClassFile.FieldType.byte))).before args0 about1 = true := code_word (m := ⟨8, 7⟩) (meth := k8m7) (c := k8c7) (by decide +kernel) rfl rfl rfl (by decide +kernel)
set_option maxRecDepth 65536 in
theorem w_c21 : (Jvm.Cond.code ({ cls := "java/lang/StringUTF16", name := "newBytesFor", desc := "(I)[B" } : Jvm.MethodName) jdk_52_method_2_code (1 : Nat) (Option.some (Jvm.ClassFile.FieldType.array Jvm.ClassFile.FieldType.byte))).before args0 about1 = true := code_word (m := ⟨8, 1⟩) (meth := k8m1) (c := k8c1) (by decide +kernel) rfl rfl rfl (by decide +kernel)
set_option maxRecDepth 65536 in
theorem w_c22 : (Jvm.Cond.code ({ cls := "java/lang/StringUTF16", name := "newBytesLength", desc := "(I)I" } : Jvm.MethodName) jdk_52_method_3_code (1 : Nat) (Option.some Jvm.ClassFile.FieldType.int)).before args0 about1 = true := code_word (m := ⟨8, 2⟩) (meth := k8m2) (c := k8c2) (by decide +kernel) rfl rfl rfl (by decide +kernel)
set_option maxRecDepth 65536 in
theorem w_c23 : (Jvm.Cond.code ({ cls := "java/lang/StringUTF16", name := "putChar", desc := "([BII)V" } : Jvm.MethodName) jdk_52_method_4_code (3 : Nat) (Option.none : Option Jvm.ClassFile.FieldType)).before args0 about1 = true := code_word (m := ⟨8, 3⟩) (meth := k8m3) (c := k8c3) (by decide +kernel) rfl rfl rfl (by decide +kernel)
set_option maxRecDepth 65536 in
theorem w_c24 : (Jvm.Cond.code ({ cls := "java/lang/StringUTF16", name := "getChar", desc := "([BI)C" } : Jvm.MethodName) jdk_52_method_5_code (2 : Nat) (Option.some Jvm.ClassFile.FieldType.char)).before args0 about1 = true := code_word (m := ⟨8, 4⟩) (meth := k8m4) (c := k8c4) (by decide +kernel) rfl rfl rfl (by decide +kernel)
set_option maxRecDepth 65536 in
theorem w_c25 : (Jvm.Cond.code ({ cls := "java/lang/StringUTF16", name := "toChars", desc := "([B)[C" } : Jvm.MethodName) jdk_52_method_13_code (2 : Nat) (Option.some (Jvm.ClassFile.FieldType.array Jvm.ClassFile.FieldType.char))).before args0 about1 = true := code_word (m := ⟨8, 6⟩) (meth := k8m6) (c := k8c6) (by decide +kernel) rfl rfl rfl (by decide +kernel)
set_option maxRecDepth 65536 in
theorem w_c26 : (Jvm.Cond.code ({ cls := "java/lang/StringUTF16", name := "getChars", desc := "([BII[CI)V" } : Jvm.MethodName) jdk_52_method_26_code (6 : Nat) (Option.none : Option Jvm.ClassFile.FieldType)).before args0 about1 = true := code_word (m := ⟨8, 11⟩) (meth := k8m11) (c := k8c11) (by decide +kernel) rfl rfl rfl (by decide +kernel)
set_option maxRecDepth 65536 in
theorem w_c27 : (Jvm.Cond.code ({ cls := "java/lang/StringUTF16", name := "checkBoundsOffCount", desc := "(II[B)V" } : Jvm.MethodName) jdk_52_method_94_code (3 : Nat) (Option.none : Option Jvm.ClassFile.FieldType)).before args0 about1 = true := code_word (m := ⟨8, 14⟩) (meth := k8m14) (c := k8c14) (by decide +kernel) rfl rfl rfl (by decide +kernel)
set_option maxRecDepth 65536 in
theorem w_c28 : (Jvm.Cond.code ({ cls := "java/lang/StringUTF16", name := "length", desc := "([B)I" } : Jvm.MethodName) jdk_52_method_6_code (1 : Nat) (Option.some Jvm.ClassFile.FieldType.int)).before args0 about1 = true := code_word (m := ⟨8, 5⟩) (meth := k8m5) (c := k8c5) (by decide +kernel) rfl rfl rfl (by decide +kernel)
set_option maxRecDepth 65536 in
theorem w_c29 : (Jvm.Cond.code ({ cls := "java/lang/String", name := "checkBoundsOffCount", desc := "(III)I" } : Jvm.MethodName) jdk_42_method_157_code (3 : Nat) (Option.some Jvm.ClassFile.FieldType.int)).before args0 about1 = true := code_word (m := ⟨7, 9⟩) (meth := k7m9) (c := k7c9) (by decide +kernel) rfl rfl rfl (by decide +kernel)
set_option maxRecDepth 65536 in
theorem w_c30 : (Jvm.Cond.code ({ cls := "jdk/internal/util/Preconditions", name := "checkFromIndexSize", desc := "(IIILjava/util/function/BiFunction;)I" } : Jvm.MethodName) jdk_41_method_13_code (4 : Nat) (Option.some Jvm.ClassFile.FieldType.int)).before args0 about1 = true := code_word (m := ⟨11, 2⟩) (meth := k11m2) (c := k11c2) (by decide +kernel) rfl rfl rfl (by decide +kernel)
set_option maxRecDepth 65536 in
theorem w_c31 : (Jvm.Cond.code ({ cls := "java/lang/StringUTF16", name := "charAt", desc := "([BI)C" } : Jvm.MethodName) jdk_52_method_83_code (2 : Nat) (Option.some Jvm.ClassFile.FieldType.char)).before args0 about1 = true := code_word (m := ⟨8, 12⟩) (meth := k8m12) (c := k8c12) (by decide +kernel) rfl rfl rfl (by decide +kernel)
set_option maxRecDepth 65536 in
theorem w_c32 : (Jvm.Cond.code ({ cls := "java/lang/StringUTF16", name := "checkIndex", desc := "(I[B)V" } : Jvm.MethodName) jdk_52_method_91_code (2 : Nat) (Option.none : Option Jvm.ClassFile.FieldType)).before args0 about1 = true := code_word (m := ⟨8, 13⟩) (meth := k8m13) (c := k8c13) (by decide +kernel) rfl rfl rfl (by decide +kernel)
def codes1 : List Jvm.Cond := [Jvm.Cond.code x code maxLocals ret, Jvm.Cond.code ({ cls := "java/lang/String", name := "<init>", desc := "([C)V" } : Jvm.MethodName) jdk_42_method_3_code (2 : Nat) (Option.none : Option Jvm.ClassFile.FieldType), Jvm.Cond.code ({ cls := "java/lang/String", name := "<init>", desc := "([CIILjava/lang/Void;)V" } : Jvm.MethodName) jdk_42_method_149_code (6 : Nat) (Option.none : Option Jvm.ClassFile.FieldType), Jvm.Cond.code ({ cls := "java/lang/Object", name := "<init>", desc := "()V" } : Jvm.MethodName) object_method_1_code (1 : Nat) (Option.none : Option Jvm.ClassFile.FieldType), Jvm.Cond.code ({ cls := "java/lang/StringUTF16", name := "compress", desc := "([CII)[B" } : Jvm.MethodName) jdk_52_method_16_code (6 : Nat) (Option.some (Jvm.ClassFile.FieldType.array Jvm.ClassFile.FieldType.byte)), Jvm.Cond.code ({ cls := "java/lang/StringUTF16", name := "compress", desc := "([CI[BII)I" } : Jvm.MethodName) jdk_52_method_21_code (7 : Nat) (Option.some Jvm.ClassFile.FieldType.int), Jvm.Cond.code ({ cls := "java/lang/StringUTF16", name := "coderFromArrayLen", desc := "([BI)B" } : Jvm.MethodName) jdk_52_method_15_code (2 : Nat) (Option.some Jvm.ClassFile.FieldType.byte), Jvm.Cond.code ({ cls := "com/example/strict_crosswalk/strictcrosswalk/forms/Doi", name := "caseFolded", desc := "(Ljava/lang/String;)Ljava/lang/String;" } : Jvm.MethodName) prog_16_method_5_code (3 : Nat) (Option.some (Jvm.ClassFile.FieldType.object "java/lang/String")), Jvm.Cond.code ({ cls := "java/lang/String", name := "toCharArray", desc := "()[C" } : Jvm.MethodName) jdk_42_method_129_code (1 : Nat) (Option.some (Jvm.ClassFile.FieldType.array Jvm.ClassFile.FieldType.char)), Jvm.Cond.code ({ cls := "java/lang/String", name := "isLatin1", desc := "()Z" } : Jvm.MethodName) jdk_42_method_154_code (1 : Nat) (Option.some Jvm.ClassFile.FieldType.boolean), Jvm.Cond.code ({ cls := "java/lang/StringLatin1", name := "toChars", desc := "([B)[C" } : Jvm.MethodName) jdk_43_method_9_code (2 : Nat) (Option.some (Jvm.ClassFile.FieldType.array Jvm.ClassFile.FieldType.char)), Jvm.Cond.code ({ cls := "java/lang/StringLatin1", name := "inflate", desc := "([BI[CII)V" } : Jvm.MethodName) jdk_43_method_49_code (6 : Nat) (Option.none : Option Jvm.ClassFile.FieldType), Jvm.Cond.code ({ cls := "java/lang/String", name := "length", desc := "()I" } : Jvm.MethodName) jdk_42_method_54_code (1 : Nat) (Option.some Jvm.ClassFile.FieldType.int), Jvm.Cond.code ({ cls := "java/lang/String", name := "coder", desc := "()B" } : Jvm.MethodName) jdk_42_method_152_code (1 : Nat) (Option.some Jvm.ClassFile.FieldType.byte), Jvm.Cond.code ({ cls := "com/example/strict_crosswalk/strictcrosswalk/forms/DoiCaseFoldedPinLaw", name := "at", desc := "(Ljava/lang/String;[CI)Z" } : Jvm.MethodName) method_3_code (3 : Nat) (Option.some Jvm.ClassFile.FieldType.boolean), Jvm.Cond.code ({ cls := "java/lang/String", name := "charAt", desc := "(I)C" } : Jvm.MethodName) jdk_42_method_56_code (2 : Nat) (Option.some Jvm.ClassFile.FieldType.char), Jvm.Cond.code ({ cls := "java/lang/StringLatin1", name := "charAt", desc := "([BI)C" } : Jvm.MethodName) jdk_43_method_2_code (2 : Nat) (Option.some Jvm.ClassFile.FieldType.char), Jvm.Cond.code ({ cls := "java/lang/String", name := "checkIndex", desc := "(II)V" } : Jvm.MethodName) jdk_42_method_155_code (2 : Nat) (Option.none : Option Jvm.ClassFile.FieldType), Jvm.Cond.code ({ cls := "jdk/internal/util/Preconditions", name := "checkIndex", desc := "(IILjava/util/function/BiFunction;)I" } : Jvm.MethodName) jdk_41_method_11_code (3 : Nat) (Option.some Jvm.ClassFile.FieldType.int), Jvm.Cond.code ({ cls := "com/example/strict_crosswalk/strictcrosswalk/forms/DoiCaseFoldedPinLaw", name := "fold", desc := "(C)C" } : Jvm.MethodName) method_2_code (1 : Nat) (Option.some Jvm.ClassFile.FieldType.char), Jvm.Cond.code ({ cls := "java/lang/StringUTF16", name := "toBytes", desc := "([CII)[B" } : Jvm.MethodName) jdk_52_method_14_code (5 : Nat) (Option.some (Jvm.ClassFile.FieldType.array Jvm.ClassFile.FieldType.byte)), Jvm.Cond.code ({ cls := "java/lang/StringUTF16", name := "newBytesFor", desc := "(I)[B" } : Jvm.MethodName) jdk_52_method_2_code (1 : Nat) (Option.some (Jvm.ClassFile.FieldType.array Jvm.ClassFile.FieldType.byte)), Jvm.Cond.code ({ cls := "java/lang/StringUTF16", name := "newBytesLength", desc := "(I)I" } : Jvm.MethodName) jdk_52_method_3_code (1 : Nat) (Option.some Jvm.ClassFile.FieldType.int), Jvm.Cond.code ({ cls := "java/lang/StringUTF16", name := "putChar", desc := "([BII)V" } : Jvm.MethodName) jdk_52_method_4_code (3 : Nat) (Option.none : Option Jvm.ClassFile.FieldType), Jvm.Cond.code ({ cls := "java/lang/StringUTF16", name := "getChar", desc := "([BI)C" } : Jvm.MethodName) jdk_52_method_5_code (2 : Nat) (Option.some Jvm.ClassFile.FieldType.char), Jvm.Cond.code ({ cls := "java/lang/StringUTF16", name := "toChars", desc := "([B)[C" } : Jvm.MethodName) jdk_52_method_13_code (2 : Nat) (Option.some (Jvm.ClassFile.FieldType.array Jvm.ClassFile.FieldType.char)), Jvm.Cond.code ({ cls := "java/lang/StringUTF16", name := "getChars", desc := "([BII[CI)V" } : Jvm.MethodName) jdk_52_method_26_code (6 : Nat) (Option.none : Option Jvm.ClassFile.FieldType), Jvm.Cond.code ({ cls := "java/lang/StringUTF16", name := "checkBoundsOffCount", desc := "(II[B)V" } : Jvm.MethodName) jdk_52_method_94_code (3 : Nat) (Option.none : Option Jvm.ClassFile.FieldType), Jvm.Cond.code ({ cls := "java/lang/StringUTF16", name := "length", desc := "([B)I" } : Jvm.MethodName) jdk_52_method_6_code (1 : Nat) (Option.some Jvm.ClassFile.FieldType.int), Jvm.Cond.code ({ cls := "java/lang/String", name := "checkBoundsOffCount", desc := "(III)I" } : Jvm.MethodName) jdk_42_method_157_code (3 : Nat) (Option.some Jvm.ClassFile.FieldType.int), Jvm.Cond.code ({ cls := "jdk/internal/util/Preconditions", name := "checkFromIndexSize", desc := "(IIILjava/util/function/BiFunction;)I" } : Jvm.MethodName) jdk_41_method_13_code (4 : Nat) (Option.some Jvm.ClassFile.FieldType.int), Jvm.Cond.code ({ cls := "java/lang/StringUTF16", name := "charAt", desc := "([BI)C" } : Jvm.MethodName) jdk_52_method_83_code (2 : Nat) (Option.some Jvm.ClassFile.FieldType.char), Jvm.Cond.code ({ cls := "java/lang/StringUTF16", name := "checkIndex", desc := "(I[B)V" } : Jvm.MethodName) jdk_52_method_91_code (2 : Nat) (Option.none : Option Jvm.ClassFile.FieldType)]
set_option maxRecDepth 65536 in
theorem codes_eq : words1.filter isCode = codes1 := rfl
theorem w_codes : ∀ c ∈ words1.filter isCode, c.before args0 about1 = true := by
  rw [codes_eq]
  intro c hc
  simp only [codes1, List.mem_cons, List.not_mem_nil, or_false] at hc
  rcases hc with rfl | rfl | rfl | rfl | rfl | rfl | rfl | rfl | rfl | rfl | rfl | rfl | rfl | rfl | rfl | rfl | rfl | rfl | rfl | rfl | rfl | rfl | rfl | rfl | rfl | rfl | rfl | rfl | rfl | rfl | rfl | rfl | rfl
  · exact w_c0
  · exact w_c1
  · exact w_c2
  · exact w_c3
  · exact w_c4
  · exact w_c5
  · exact w_c6
  · exact w_c7
  · exact w_c8
  · exact w_c9
  · exact w_c10
  · exact w_c11
  · exact w_c12
  · exact w_c13
  · exact w_c14
  · exact w_c15
  · exact w_c16
  · exact w_c17
  · exact w_c18
  · exact w_c19
  · exact w_c20
  · exact w_c21
  · exact w_c22
  · exact w_c23
  · exact w_c24
  · exact w_c25
  · exact w_c26
  · exact w_c27
  · exact w_c28
  · exact w_c29
  · exact w_c30
  · exact w_c31
  · exact w_c32
set_option maxRecDepth 65536 in
theorem w_t1 : (words1.take 24).all (fun c => isCode c || c.before args0 about1) = true := by decide +kernel
set_option maxRecDepth 65536 in
theorem w_t2 : ((words1.drop 24).take 24).all (fun c => isCode c || c.before args0 about1) = true := by decide +kernel
set_option maxRecDepth 65536 in
theorem w_t3 : (((words1.drop 24).drop 24).take 24).all (fun c => isCode c || c.before args0 about1) = true := by decide +kernel
set_option maxRecDepth 65536 in
theorem w_t4 : ((((words1.drop 24).drop 24).drop 24).take 24).all (fun c => isCode c || c.before args0 about1) = true := by decide +kernel
set_option maxRecDepth 65536 in
theorem w_t5 : (((((words1.drop 24).drop 24).drop 24).drop 24).take 24).all (fun c => isCode c || c.before args0 about1) = true := by decide +kernel
set_option maxRecDepth 65536 in
theorem w_t6 : (((((words1.drop 24).drop 24).drop 24).drop 24).drop 24).all (fun c => isCode c || c.before args0 about1) = true := by decide +kernel
theorem w_tables : (allAtoms (Jvm.Cond.code x code maxLocals ret :: tables_1)).before args0 about1 = true := by
  rw [allAtoms_all]
  show words1.all (fun c => c.before args0 about1) = true
  refine all_split ?_ w_codes
  rw [← List.take_append_drop 24 words1, List.all_append, w_t1, ← List.take_append_drop 24 (words1.drop 24), List.all_append, w_t2, ← List.take_append_drop 24 ((words1.drop 24).drop 24), List.all_append, w_t3, ← List.take_append_drop 24 (((words1.drop 24).drop 24).drop 24), List.all_append, w_t4, ← List.take_append_drop 24 ((((words1.drop 24).drop 24).drop 24).drop 24), List.all_append, w_t5, w_t6]
  rfl
set_option maxRecDepth 65536 in
theorem w_rest : rest_1_c.before args0 about1 = true := by decide +kernel
set_option maxRecDepth 65536 in
theorem w_case : (Jvm.Cond.and given_1 narrow_1).before args0 about1 = true := by decide +kernel
set_option maxRecDepth 65536 in
theorem w_consts : constsHeld consts_1 about1 := Jvm.Lit.constsHeldB_iff.mp (by decide +kernel)
theorem w_applies : (headSpec (Jvm.Cond.code x code maxLocals ret :: tables_1) room_1).applies x e0.platform about1 = true :=
  (Spec.applies_iff w_frames).mpr ⟨w_running, w_runnable, w_alone, w_named, w_hears, w_ripe, w_room, w_tables⟩
theorem atStart : AtStart classFile x code maxLocals ret World_1 tables_1 room_1 Calls_1 rest_1 Pre_1 launch0 p0 e0 about1 theMethod args0 below0 :=
  ⟨lists_1, trivial, launch0.admits_env _ _ _, launch0.least_env, fairChoices_fair.cas, fairChoices_fair.clock, w_frames, w_args, w_heap, w_applies, ⟨w_consts, trivial⟩, w_rest, w_case⟩
end start1
theorem witness_1 : WitnessClaimed_1 := ⟨start1.p0, start1.e0, start1.about1, start1.theMethod, start1.args0, start1.below0, start1.atStart⟩
end Jvm.Pilot.@@N@@
