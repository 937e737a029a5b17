import JvmDerived
import JvmDerived.Pilot.@@N@@Statement
import JvmDerived.Pilot.@@N@@Code
set_option linter.unusedVariables false
set_option linter.unusedSimpArgs false
namespace Jvm.Pilot.@@N@@
open Jvm Jvm.ClassFile Sem Op Lib Jvm.Free Jvm.Stand Jvm.LawKit Jvm.RoadKit Bundle Jvm.Pilot.@@N@@.Jvm.D
section OwnKit
variable {p : Program} {l : Launch} {e : Env} {R : Room} {s : State} {m : MethodId} {args : Array Value} {below : List Frame} {meth : Method} {c : Code} {T : State} {locs : List Loc} {cells slots : Nat}
variable {Q : Option Value → Heap → List Loc → Prop} {K N : Nat}
/-- from the state U the body comes to its end, and leaves what Q says -/
def own_G (p : Program) (e : Env) (below : List Frame) (s : State) (Q : Option Value → Heap → List Loc → Prop) (K N : Nat) (U : State) : Prop :=
  ∃ s₂ o, Steps p.tables e below U s₂ ∧ s₂.status = .running ∧ Ended s₂ below o ∧ ∃ v L, o = .returned v ∧ Q v s₂.heap L ∧ FrameEnd s o s₂ L K N
theorem own_go {U U' : State} (h : ∀ t, Steps p.tables e below U' t → Steps p.tables e below U t) (k : own_G p e below s Q K N U') : own_G p e below s Q K N U := by
  obtain ⟨s₂, o, h1, r⟩ := k
  exact ⟨s₂, o, h _ h1, r⟩
theorem own_end (X : Stand p l e R s m args below meth c T locs cells slots) {v : Option Value} (hv : meth.sig.returnType = none → v = none) (hlocks : meth.locks = false) {U : State}
    (st : ∀ fs, (∀ (f : JFrame) (acts : List Action), f.method = m → f.locked = none → f.entered = [] → (doReturn e (T.setTop f) acts v).1 = T.setFrames fs) → Steps p.tables e below U (T.setFrames fs))
    (hQ : Q v T.heap locs) (hK : cells ≤ K) (hN : slots ≤ N) : own_G p e below s Q K N U := by
  obtain ⟨fs, hr, hrun, hended, hW, hsame⟩ := X.leave hv hlocks
  exact ⟨_, _, st fs hr, hrun, hended, _, _, rfl, hQ, ⟨_, rfl⟩, hW, hsame.mono hK hN⟩
theorem own_retI (X : Stand p l e R s m args below meth c T locs cells slots) (hx : p.tables.exec = Jvm.exec) {pc : Nat} {Ls : Array Slot} {z : Int32} {rest : List Value} (hret : meth.sig.returnType = some .int) (hlocks : meth.locks = false) (hd : decode c.code pc = .ok (.ireturn, 1))
    {h : Heap} (eT : T.heap = h) (hQ : Q (some (.int z)) h locs) (hK : cells ≤ K) (hN : slots ≤ N) : own_G p e below s Q K N (T.setTop (mkF m pc Ls (.int z :: rest))) :=
  own_end X (fun h => by rw [hret] at h; cases h) hlocks (fun fs hr => retOut X hx hret rfl (Or.inl ⟨rfl, Or.inl rfl, _, rfl⟩) hd hr) (by rw [eT]; exact hQ) hK hN
theorem own_retJ (X : Stand p l e R s m args below meth c T locs cells slots) (hx : p.tables.exec = Jvm.exec) {pc : Nat} {Ls : Array Slot} {z : Int64} {rest : List Value} (hret : meth.sig.returnType = some .long) (hlocks : meth.locks = false) (hd : decode c.code pc = .ok (.lreturn, 1))
    {h : Heap} (eT : T.heap = h) (hQ : Q (some (.long z)) h locs) (hK : cells ≤ K) (hN : slots ≤ N) : own_G p e below s Q K N (T.setTop (mkF m pc Ls (.long z :: rest))) :=
  own_end X (fun h => by rw [hret] at h; cases h) hlocks (fun fs hr => retOut X hx hret rfl (Or.inr (Or.inl ⟨rfl, rfl, _, rfl⟩)) hd hr) (by rw [eT]; exact hQ) hK hN
theorem own_retD (X : Stand p l e R s m args below meth c T locs cells slots) (hx : p.tables.exec = Jvm.exec) {pc : Nat} {Ls : Array Slot} {z : UInt64} {rest : List Value} (hret : meth.sig.returnType = some .double) (hlocks : meth.locks = false) (hd : decode c.code pc = .ok (.dreturn, 1))
    {h : Heap} (eT : T.heap = h) (hQ : Q (some (.double z)) h locs) (hK : cells ≤ K) (hN : slots ≤ N) : own_G p e below s Q K N (T.setTop (mkF m pc Ls (.double z :: rest))) :=
  own_end X (fun h => by rw [hret] at h; cases h) hlocks (fun fs hr => retOut X hx hret rfl (Or.inr (Or.inr (Or.inl ⟨rfl, rfl, _, rfl⟩))) hd hr) (by rw [eT]; exact hQ) hK hN
theorem own_retA {t : FieldType} (ht : t.isReference = true) {w : Value} (hv : w.isRef = true) (X : Stand p l e R s m args below meth c T locs cells slots) (hx : p.tables.exec = Jvm.exec) {pc : Nat} {Ls : Array Slot} {rest : List Value} (hret : meth.sig.returnType = some t) (hlocks : meth.locks = false) (hd : decode c.code pc = .ok (.areturn, 1))
    {h : Heap} (eT : T.heap = h) (hQ : Q (some w) h locs) (hK : cells ≤ K) (hN : slots ≤ N) : own_G p e below s Q K N (T.setTop (mkF m pc Ls (w :: rest))) :=
  own_end X (fun h => by rw [hret] at h; cases h) hlocks (fun fs hr => retOut X hx hret (by cases t <;> first | rfl | (cases ht)) (Or.inr (Or.inr (Or.inr (Or.inr ⟨rfl, ht, hv⟩)))) hd hr) (by rw [eT]; exact hQ) hK hN
theorem own_retN {t : FieldType} (ht : t = .boolean ∨ t = .byte ∨ t = .char ∨ t = .short) (X : Stand p l e R s m args below meth c T locs cells slots) (hx : p.tables.exec = Jvm.exec) {pc : Nat} {Ls : Array Slot} {z : Int32} {rest : List Value} (hret : meth.sig.returnType = some t) (hlocks : meth.locks = false) (hd : decode c.code pc = .ok (.ireturn, 1))
    {h : Heap} (eT : T.heap = h) (hQ : Q (some (.int (nar t z))) h locs) (hK : cells ≤ K) (hN : slots ≤ N) : own_G p e below s Q K N (T.setTop (mkF m pc Ls (.int z :: rest))) :=
  own_end X (fun h => by rw [hret] at h; cases h) hlocks (fun fs hr => retN X hx hret ht hd hr) (by rw [eT]; exact hQ) hK hN
theorem own_ret0 (X : Stand p l e R s m args below meth c T locs cells slots) (hx : p.tables.exec = Jvm.exec) {pc : Nat} {Ls : Array Slot} (hret : meth.sig.returnType = none) (hlocks : meth.locks = false) (hd : decode c.code pc = .ok (.return_, 1))
    {h : Heap} (eT : T.heap = h) (hQ : Q none h locs) (hK : cells ≤ K) (hN : slots ≤ N) : own_G p e below s Q K N (T.setTop (mkF m pc Ls [])) :=
  own_end X (fun _ => rfl) hlocks (fun fs hr => X.returnOut hx hret hd hr) (by rw [eT]; exact hQ) hK hN
theorem own_lrem (X : Stand p l e R s m args below meth c T locs cells slots) (hx : p.tables.exec = Jvm.exec) {g : JFrame} {target : State} (hg : g.method = m) {x y : Int64} {rest : List Value} (hd : decode c.code g.pc = .ok (.lrem, 1)) (hs : g.stack = .long y :: .long x :: rest) (hy : y ≠ 0)
    (hr : Steps p.tables e below (T.setTop { g with pc := g.pc + 1, stack := .long (x % y) :: rest }) target) : Steps p.tables e below (T.setTop g) target :=
  XS.lrem X.here hx hg hd hs hy (by rw [lrem_mod]; exact hr)
theorem own_ic_ltY (X : Stand p l e R s m args below meth c T locs cells slots) (hx : p.tables.exec = Jvm.exec) {pc pc' : Nat} {Ls : Array Slot} {rest : List Value} {o : Int} {x y : Int32} (hd : decode c.code pc = .ok (.if_icmp .lt o, 3)) (ho : 0 ≤ (pc : Int) + o) (hp : ((pc : Int) + o).toNat = pc') (h : x < y) (k : own_G p e below s Q K N (T.setTop (mkF m pc' Ls rest))) : own_G p e below s Q K N (T.setTop (mkF m pc Ls (.int y :: .int x :: rest))) :=
  own_go (fun _ k => XS.icmpYes X.here hx rfl (pc0 := pc) (pc' := pc') rfl hd rfl (tlt h).1 ho hp k) k
theorem own_ic_ltN (X : Stand p l e R s m args below meth c T locs cells slots) (hx : p.tables.exec = Jvm.exec) {pc : Nat} {Ls : Array Slot} {rest : List Value} {o : Int} {x y : Int32} (hd : decode c.code pc = .ok (.if_icmp .lt o, 3)) (h : ¬ (x < y)) (k : own_G p e below s Q K N (T.setTop (mkF m (pc + 3) Ls rest))) : own_G p e below s Q K N (T.setTop (mkF m pc Ls (.int y :: .int x :: rest))) :=
  own_go (fun _ k => XS.icmpNo X.here hx rfl hd rfl (flt h).1 k) k
theorem own_ic_lt (X : Stand p l e R s m args below meth c T locs cells slots) (hx : p.tables.exec = Jvm.exec) {pc pc' : Nat} {Ls : Array Slot} {rest : List Value} {o : Int} {x y : Int32} (hd : decode c.code pc = .ok (.if_icmp .lt o, 3)) (ho : 0 ≤ (pc : Int) + o) (hp : ((pc : Int) + o).toNat = pc') (ky : x < y → own_G p e below s Q K N (T.setTop (mkF m pc' Ls rest))) (kn : ¬ (x < y) → own_G p e below s Q K N (T.setTop (mkF m (pc + 3) Ls rest))) : own_G p e below s Q K N (T.setTop (mkF m pc Ls (.int y :: .int x :: rest))) := by
  by_cases h : x < y
  · exact own_ic_ltY X hx hd ho hp h (ky h)
  · exact own_ic_ltN X hx hd h (kn h)
theorem own_if_ltY (X : Stand p l e R s m args below meth c T locs cells slots) (hx : p.tables.exec = Jvm.exec) {pc pc' : Nat} {Ls : Array Slot} {rest : List Value} {o : Int} {x : Int32} (hd : decode c.code pc = .ok (.ifCond .lt o, 3)) (ho : 0 ≤ (pc : Int) + o) (hp : ((pc : Int) + o).toNat = pc') (h : x < 0) (k : own_G p e below s Q K N (T.setTop (mkF m pc' Ls rest))) : own_G p e below s Q K N (T.setTop (mkF m pc Ls (.int x :: rest))) :=
  own_go (fun _ k => XS.ifYes X.here hx rfl (pc0 := pc) (pc' := pc') rfl hd rfl ((if0 _ _).trans (tlt h).1) ho hp k) k
theorem own_if_ltN (X : Stand p l e R s m args below meth c T locs cells slots) (hx : p.tables.exec = Jvm.exec) {pc : Nat} {Ls : Array Slot} {rest : List Value} {o : Int} {x : Int32} (hd : decode c.code pc = .ok (.ifCond .lt o, 3)) (h : ¬ (x < 0)) (k : own_G p e below s Q K N (T.setTop (mkF m (pc + 3) Ls rest))) : own_G p e below s Q K N (T.setTop (mkF m pc Ls (.int x :: rest))) :=
  own_go (fun _ k => XS.ifNo X.here hx rfl hd rfl ((if0 _ _).trans (flt h).1) k) k
theorem own_if_lt (X : Stand p l e R s m args below meth c T locs cells slots) (hx : p.tables.exec = Jvm.exec) {pc pc' : Nat} {Ls : Array Slot} {rest : List Value} {o : Int} {x : Int32} (hd : decode c.code pc = .ok (.ifCond .lt o, 3)) (ho : 0 ≤ (pc : Int) + o) (hp : ((pc : Int) + o).toNat = pc') (ky : x < 0 → own_G p e below s Q K N (T.setTop (mkF m pc' Ls rest))) (kn : ¬ (x < 0) → own_G p e below s Q K N (T.setTop (mkF m (pc + 3) Ls rest))) : own_G p e below s Q K N (T.setTop (mkF m pc Ls (.int x :: rest))) := by
  by_cases h : x < 0
  · exact own_if_ltY X hx hd ho hp h (ky h)
  · exact own_if_ltN X hx hd h (kn h)
theorem own_ic_geY (X : Stand p l e R s m args below meth c T locs cells slots) (hx : p.tables.exec = Jvm.exec) {pc pc' : Nat} {Ls : Array Slot} {rest : List Value} {o : Int} {x y : Int32} (hd : decode c.code pc = .ok (.if_icmp .ge o, 3)) (ho : 0 ≤ (pc : Int) + o) (hp : ((pc : Int) + o).toNat = pc') (h : ¬ (x < y)) (k : own_G p e below s Q K N (T.setTop (mkF m pc' Ls rest))) : own_G p e below s Q K N (T.setTop (mkF m pc Ls (.int y :: .int x :: rest))) :=
  own_go (fun _ k => XS.icmpYes X.here hx rfl (pc0 := pc) (pc' := pc') rfl hd rfl (flt h).2.1 ho hp k) k
theorem own_ic_geN (X : Stand p l e R s m args below meth c T locs cells slots) (hx : p.tables.exec = Jvm.exec) {pc : Nat} {Ls : Array Slot} {rest : List Value} {o : Int} {x y : Int32} (hd : decode c.code pc = .ok (.if_icmp .ge o, 3)) (h : x < y) (k : own_G p e below s Q K N (T.setTop (mkF m (pc + 3) Ls rest))) : own_G p e below s Q K N (T.setTop (mkF m pc Ls (.int y :: .int x :: rest))) :=
  own_go (fun _ k => XS.icmpNo X.here hx rfl hd rfl (tlt h).2.1 k) k
theorem own_ic_ge (X : Stand p l e R s m args below meth c T locs cells slots) (hx : p.tables.exec = Jvm.exec) {pc pc' : Nat} {Ls : Array Slot} {rest : List Value} {o : Int} {x y : Int32} (hd : decode c.code pc = .ok (.if_icmp .ge o, 3)) (ho : 0 ≤ (pc : Int) + o) (hp : ((pc : Int) + o).toNat = pc') (ky : ¬ (x < y) → own_G p e below s Q K N (T.setTop (mkF m pc' Ls rest))) (kn : x < y → own_G p e below s Q K N (T.setTop (mkF m (pc + 3) Ls rest))) : own_G p e below s Q K N (T.setTop (mkF m pc Ls (.int y :: .int x :: rest))) := by
  by_cases h : x < y
  · exact own_ic_geN X hx hd h (kn h)
  · exact own_ic_geY X hx hd ho hp h (ky h)
theorem own_if_geY (X : Stand p l e R s m args below meth c T locs cells slots) (hx : p.tables.exec = Jvm.exec) {pc pc' : Nat} {Ls : Array Slot} {rest : List Value} {o : Int} {x : Int32} (hd : decode c.code pc = .ok (.ifCond .ge o, 3)) (ho : 0 ≤ (pc : Int) + o) (hp : ((pc : Int) + o).toNat = pc') (h : ¬ (x < 0)) (k : own_G p e below s Q K N (T.setTop (mkF m pc' Ls rest))) : own_G p e below s Q K N (T.setTop (mkF m pc Ls (.int x :: rest))) :=
  own_go (fun _ k => XS.ifYes X.here hx rfl (pc0 := pc) (pc' := pc') rfl hd rfl ((if0 _ _).trans (flt h).2.1) ho hp k) k
theorem own_if_geN (X : Stand p l e R s m args below meth c T locs cells slots) (hx : p.tables.exec = Jvm.exec) {pc : Nat} {Ls : Array Slot} {rest : List Value} {o : Int} {x : Int32} (hd : decode c.code pc = .ok (.ifCond .ge o, 3)) (h : x < 0) (k : own_G p e below s Q K N (T.setTop (mkF m (pc + 3) Ls rest))) : own_G p e below s Q K N (T.setTop (mkF m pc Ls (.int x :: rest))) :=
  own_go (fun _ k => XS.ifNo X.here hx rfl hd rfl ((if0 _ _).trans (tlt h).2.1) k) k
theorem own_if_ge (X : Stand p l e R s m args below meth c T locs cells slots) (hx : p.tables.exec = Jvm.exec) {pc pc' : Nat} {Ls : Array Slot} {rest : List Value} {o : Int} {x : Int32} (hd : decode c.code pc = .ok (.ifCond .ge o, 3)) (ho : 0 ≤ (pc : Int) + o) (hp : ((pc : Int) + o).toNat = pc') (ky : ¬ (x < 0) → own_G p e below s Q K N (T.setTop (mkF m pc' Ls rest))) (kn : x < 0 → own_G p e below s Q K N (T.setTop (mkF m (pc + 3) Ls rest))) : own_G p e below s Q K N (T.setTop (mkF m pc Ls (.int x :: rest))) := by
  by_cases h : x < 0
  · exact own_if_geN X hx hd h (kn h)
  · exact own_if_geY X hx hd ho hp h (ky h)
theorem own_ic_gtY (X : Stand p l e R s m args below meth c T locs cells slots) (hx : p.tables.exec = Jvm.exec) {pc pc' : Nat} {Ls : Array Slot} {rest : List Value} {o : Int} {x y : Int32} (hd : decode c.code pc = .ok (.if_icmp .gt o, 3)) (ho : 0 ≤ (pc : Int) + o) (hp : ((pc : Int) + o).toNat = pc') (h : y < x) (k : own_G p e below s Q K N (T.setTop (mkF m pc' Ls rest))) : own_G p e below s Q K N (T.setTop (mkF m pc Ls (.int y :: .int x :: rest))) :=
  own_go (fun _ k => XS.icmpYes X.here hx rfl (pc0 := pc) (pc' := pc') rfl hd rfl (tlt h).2.2.1 ho hp k) k
theorem own_ic_gtN (X : Stand p l e R s m args below meth c T locs cells slots) (hx : p.tables.exec = Jvm.exec) {pc : Nat} {Ls : Array Slot} {rest : List Value} {o : Int} {x y : Int32} (hd : decode c.code pc = .ok (.if_icmp .gt o, 3)) (h : ¬ (y < x)) (k : own_G p e below s Q K N (T.setTop (mkF m (pc + 3) Ls rest))) : own_G p e below s Q K N (T.setTop (mkF m pc Ls (.int y :: .int x :: rest))) :=
  own_go (fun _ k => XS.icmpNo X.here hx rfl hd rfl (flt h).2.2.1 k) k
theorem own_ic_gt (X : Stand p l e R s m args below meth c T locs cells slots) (hx : p.tables.exec = Jvm.exec) {pc pc' : Nat} {Ls : Array Slot} {rest : List Value} {o : Int} {x y : Int32} (hd : decode c.code pc = .ok (.if_icmp .gt o, 3)) (ho : 0 ≤ (pc : Int) + o) (hp : ((pc : Int) + o).toNat = pc') (ky : y < x → own_G p e below s Q K N (T.setTop (mkF m pc' Ls rest))) (kn : ¬ (y < x) → own_G p e below s Q K N (T.setTop (mkF m (pc + 3) Ls rest))) : own_G p e below s Q K N (T.setTop (mkF m pc Ls (.int y :: .int x :: rest))) := by
  by_cases h : y < x
  · exact own_ic_gtY X hx hd ho hp h (ky h)
  · exact own_ic_gtN X hx hd h (kn h)
theorem own_if_gtY (X : Stand p l e R s m args below meth c T locs cells slots) (hx : p.tables.exec = Jvm.exec) {pc pc' : Nat} {Ls : Array Slot} {rest : List Value} {o : Int} {x : Int32} (hd : decode c.code pc = .ok (.ifCond .gt o, 3)) (ho : 0 ≤ (pc : Int) + o) (hp : ((pc : Int) + o).toNat = pc') (h : 0 < x) (k : own_G p e below s Q K N (T.setTop (mkF m pc' Ls rest))) : own_G p e below s Q K N (T.setTop (mkF m pc Ls (.int x :: rest))) :=
  own_go (fun _ k => XS.ifYes X.here hx rfl (pc0 := pc) (pc' := pc') rfl hd rfl ((if0 _ _).trans (tlt h).2.2.1) ho hp k) k
theorem own_if_gtN (X : Stand p l e R s m args below meth c T locs cells slots) (hx : p.tables.exec = Jvm.exec) {pc : Nat} {Ls : Array Slot} {rest : List Value} {o : Int} {x : Int32} (hd : decode c.code pc = .ok (.ifCond .gt o, 3)) (h : ¬ (0 < x)) (k : own_G p e below s Q K N (T.setTop (mkF m (pc + 3) Ls rest))) : own_G p e below s Q K N (T.setTop (mkF m pc Ls (.int x :: rest))) :=
  own_go (fun _ k => XS.ifNo X.here hx rfl hd rfl ((if0 _ _).trans (flt h).2.2.1) k) k
theorem own_if_gt (X : Stand p l e R s m args below meth c T locs cells slots) (hx : p.tables.exec = Jvm.exec) {pc pc' : Nat} {Ls : Array Slot} {rest : List Value} {o : Int} {x : Int32} (hd : decode c.code pc = .ok (.ifCond .gt o, 3)) (ho : 0 ≤ (pc : Int) + o) (hp : ((pc : Int) + o).toNat = pc') (ky : 0 < x → own_G p e below s Q K N (T.setTop (mkF m pc' Ls rest))) (kn : ¬ (0 < x) → own_G p e below s Q K N (T.setTop (mkF m (pc + 3) Ls rest))) : own_G p e below s Q K N (T.setTop (mkF m pc Ls (.int x :: rest))) := by
  by_cases h : 0 < x
  · exact own_if_gtY X hx hd ho hp h (ky h)
  · exact own_if_gtN X hx hd h (kn h)
theorem own_ic_leY (X : Stand p l e R s m args below meth c T locs cells slots) (hx : p.tables.exec = Jvm.exec) {pc pc' : Nat} {Ls : Array Slot} {rest : List Value} {o : Int} {x y : Int32} (hd : decode c.code pc = .ok (.if_icmp .le o, 3)) (ho : 0 ≤ (pc : Int) + o) (hp : ((pc : Int) + o).toNat = pc') (h : ¬ (y < x)) (k : own_G p e below s Q K N (T.setTop (mkF m pc' Ls rest))) : own_G p e below s Q K N (T.setTop (mkF m pc Ls (.int y :: .int x :: rest))) :=
  own_go (fun _ k => XS.icmpYes X.here hx rfl (pc0 := pc) (pc' := pc') rfl hd rfl (flt h).2.2.2 ho hp k) k
theorem own_ic_leN (X : Stand p l e R s m args below meth c T locs cells slots) (hx : p.tables.exec = Jvm.exec) {pc : Nat} {Ls : Array Slot} {rest : List Value} {o : Int} {x y : Int32} (hd : decode c.code pc = .ok (.if_icmp .le o, 3)) (h : y < x) (k : own_G p e below s Q K N (T.setTop (mkF m (pc + 3) Ls rest))) : own_G p e below s Q K N (T.setTop (mkF m pc Ls (.int y :: .int x :: rest))) :=
  own_go (fun _ k => XS.icmpNo X.here hx rfl hd rfl (tlt h).2.2.2 k) k
theorem own_ic_le (X : Stand p l e R s m args below meth c T locs cells slots) (hx : p.tables.exec = Jvm.exec) {pc pc' : Nat} {Ls : Array Slot} {rest : List Value} {o : Int} {x y : Int32} (hd : decode c.code pc = .ok (.if_icmp .le o, 3)) (ho : 0 ≤ (pc : Int) + o) (hp : ((pc : Int) + o).toNat = pc') (ky : ¬ (y < x) → own_G p e below s Q K N (T.setTop (mkF m pc' Ls rest))) (kn : y < x → own_G p e below s Q K N (T.setTop (mkF m (pc + 3) Ls rest))) : own_G p e below s Q K N (T.setTop (mkF m pc Ls (.int y :: .int x :: rest))) := by
  by_cases h : y < x
  · exact own_ic_leN X hx hd h (kn h)
  · exact own_ic_leY X hx hd ho hp h (ky h)
theorem own_if_leY (X : Stand p l e R s m args below meth c T locs cells slots) (hx : p.tables.exec = Jvm.exec) {pc pc' : Nat} {Ls : Array Slot} {rest : List Value} {o : Int} {x : Int32} (hd : decode c.code pc = .ok (.ifCond .le o, 3)) (ho : 0 ≤ (pc : Int) + o) (hp : ((pc : Int) + o).toNat = pc') (h : ¬ (0 < x)) (k : own_G p e below s Q K N (T.setTop (mkF m pc' Ls rest))) : own_G p e below s Q K N (T.setTop (mkF m pc Ls (.int x :: rest))) :=
  own_go (fun _ k => XS.ifYes X.here hx rfl (pc0 := pc) (pc' := pc') rfl hd rfl ((if0 _ _).trans (flt h).2.2.2) ho hp k) k
theorem own_if_leN (X : Stand p l e R s m args below meth c T locs cells slots) (hx : p.tables.exec = Jvm.exec) {pc : Nat} {Ls : Array Slot} {rest : List Value} {o : Int} {x : Int32} (hd : decode c.code pc = .ok (.ifCond .le o, 3)) (h : 0 < x) (k : own_G p e below s Q K N (T.setTop (mkF m (pc + 3) Ls rest))) : own_G p e below s Q K N (T.setTop (mkF m pc Ls (.int x :: rest))) :=
  own_go (fun _ k => XS.ifNo X.here hx rfl hd rfl ((if0 _ _).trans (tlt h).2.2.2) k) k
theorem own_if_le (X : Stand p l e R s m args below meth c T locs cells slots) (hx : p.tables.exec = Jvm.exec) {pc pc' : Nat} {Ls : Array Slot} {rest : List Value} {o : Int} {x : Int32} (hd : decode c.code pc = .ok (.ifCond .le o, 3)) (ho : 0 ≤ (pc : Int) + o) (hp : ((pc : Int) + o).toNat = pc') (ky : ¬ (0 < x) → own_G p e below s Q K N (T.setTop (mkF m pc' Ls rest))) (kn : 0 < x → own_G p e below s Q K N (T.setTop (mkF m (pc + 3) Ls rest))) : own_G p e below s Q K N (T.setTop (mkF m pc Ls (.int x :: rest))) := by
  by_cases h : 0 < x
  · exact own_if_leN X hx hd h (kn h)
  · exact own_if_leY X hx hd ho hp h (ky h)
theorem own_ic_eqY (X : Stand p l e R s m args below meth c T locs cells slots) (hx : p.tables.exec = Jvm.exec) {pc pc' : Nat} {Ls : Array Slot} {rest : List Value} {o : Int} {x y : Int32} (hd : decode c.code pc = .ok (.if_icmp .eq o, 3)) (ho : 0 ≤ (pc : Int) + o) (hp : ((pc : Int) + o).toNat = pc') (h : x = y) (k : own_G p e below s Q K N (T.setTop (mkF m pc' Ls rest))) : own_G p e below s Q K N (T.setTop (mkF m pc Ls (.int y :: .int x :: rest))) :=
  own_go (fun _ k => XS.icmpYes X.here hx rfl (pc0 := pc) (pc' := pc') rfl hd rfl (teq h).1 ho hp k) k
theorem own_ic_eqN (X : Stand p l e R s m args below meth c T locs cells slots) (hx : p.tables.exec = Jvm.exec) {pc : Nat} {Ls : Array Slot} {rest : List Value} {o : Int} {x y : Int32} (hd : decode c.code pc = .ok (.if_icmp .eq o, 3)) (h : ¬ (x = y)) (k : own_G p e below s Q K N (T.setTop (mkF m (pc + 3) Ls rest))) : own_G p e below s Q K N (T.setTop (mkF m pc Ls (.int y :: .int x :: rest))) :=
  own_go (fun _ k => XS.icmpNo X.here hx rfl hd rfl (feq h).1 k) k
theorem own_ic_eq (X : Stand p l e R s m args below meth c T locs cells slots) (hx : p.tables.exec = Jvm.exec) {pc pc' : Nat} {Ls : Array Slot} {rest : List Value} {o : Int} {x y : Int32} (hd : decode c.code pc = .ok (.if_icmp .eq o, 3)) (ho : 0 ≤ (pc : Int) + o) (hp : ((pc : Int) + o).toNat = pc') (ky : x = y → own_G p e below s Q K N (T.setTop (mkF m pc' Ls rest))) (kn : ¬ (x = y) → own_G p e below s Q K N (T.setTop (mkF m (pc + 3) Ls rest))) : own_G p e below s Q K N (T.setTop (mkF m pc Ls (.int y :: .int x :: rest))) := by
  by_cases h : x = y
  · exact own_ic_eqY X hx hd ho hp h (ky h)
  · exact own_ic_eqN X hx hd h (kn h)
theorem own_if_eqY (X : Stand p l e R s m args below meth c T locs cells slots) (hx : p.tables.exec = Jvm.exec) {pc pc' : Nat} {Ls : Array Slot} {rest : List Value} {o : Int} {x : Int32} (hd : decode c.code pc = .ok (.ifCond .eq o, 3)) (ho : 0 ≤ (pc : Int) + o) (hp : ((pc : Int) + o).toNat = pc') (h : x = 0) (k : own_G p e below s Q K N (T.setTop (mkF m pc' Ls rest))) : own_G p e below s Q K N (T.setTop (mkF m pc Ls (.int x :: rest))) :=
  own_go (fun _ k => XS.ifYes X.here hx rfl (pc0 := pc) (pc' := pc') rfl hd rfl ((if0 _ _).trans (teq h).1) ho hp k) k
theorem own_if_eqN (X : Stand p l e R s m args below meth c T locs cells slots) (hx : p.tables.exec = Jvm.exec) {pc : Nat} {Ls : Array Slot} {rest : List Value} {o : Int} {x : Int32} (hd : decode c.code pc = .ok (.ifCond .eq o, 3)) (h : ¬ (x = 0)) (k : own_G p e below s Q K N (T.setTop (mkF m (pc + 3) Ls rest))) : own_G p e below s Q K N (T.setTop (mkF m pc Ls (.int x :: rest))) :=
  own_go (fun _ k => XS.ifNo X.here hx rfl hd rfl ((if0 _ _).trans (feq h).1) k) k
theorem own_if_eq (X : Stand p l e R s m args below meth c T locs cells slots) (hx : p.tables.exec = Jvm.exec) {pc pc' : Nat} {Ls : Array Slot} {rest : List Value} {o : Int} {x : Int32} (hd : decode c.code pc = .ok (.ifCond .eq o, 3)) (ho : 0 ≤ (pc : Int) + o) (hp : ((pc : Int) + o).toNat = pc') (ky : x = 0 → own_G p e below s Q K N (T.setTop (mkF m pc' Ls rest))) (kn : ¬ (x = 0) → own_G p e below s Q K N (T.setTop (mkF m (pc + 3) Ls rest))) : own_G p e below s Q K N (T.setTop (mkF m pc Ls (.int x :: rest))) := by
  by_cases h : x = 0
  · exact own_if_eqY X hx hd ho hp h (ky h)
  · exact own_if_eqN X hx hd h (kn h)
theorem own_ic_neY (X : Stand p l e R s m args below meth c T locs cells slots) (hx : p.tables.exec = Jvm.exec) {pc pc' : Nat} {Ls : Array Slot} {rest : List Value} {o : Int} {x y : Int32} (hd : decode c.code pc = .ok (.if_icmp .ne o, 3)) (ho : 0 ≤ (pc : Int) + o) (hp : ((pc : Int) + o).toNat = pc') (h : ¬ (x = y)) (k : own_G p e below s Q K N (T.setTop (mkF m pc' Ls rest))) : own_G p e below s Q K N (T.setTop (mkF m pc Ls (.int y :: .int x :: rest))) :=
  own_go (fun _ k => XS.icmpYes X.here hx rfl (pc0 := pc) (pc' := pc') rfl hd rfl (feq h).2 ho hp k) k
theorem own_ic_neN (X : Stand p l e R s m args below meth c T locs cells slots) (hx : p.tables.exec = Jvm.exec) {pc : Nat} {Ls : Array Slot} {rest : List Value} {o : Int} {x y : Int32} (hd : decode c.code pc = .ok (.if_icmp .ne o, 3)) (h : x = y) (k : own_G p e below s Q K N (T.setTop (mkF m (pc + 3) Ls rest))) : own_G p e below s Q K N (T.setTop (mkF m pc Ls (.int y :: .int x :: rest))) :=
  own_go (fun _ k => XS.icmpNo X.here hx rfl hd rfl (teq h).2 k) k
theorem own_ic_ne (X : Stand p l e R s m args below meth c T locs cells slots) (hx : p.tables.exec = Jvm.exec) {pc pc' : Nat} {Ls : Array Slot} {rest : List Value} {o : Int} {x y : Int32} (hd : decode c.code pc = .ok (.if_icmp .ne o, 3)) (ho : 0 ≤ (pc : Int) + o) (hp : ((pc : Int) + o).toNat = pc') (ky : ¬ (x = y) → own_G p e below s Q K N (T.setTop (mkF m pc' Ls rest))) (kn : x = y → own_G p e below s Q K N (T.setTop (mkF m (pc + 3) Ls rest))) : own_G p e below s Q K N (T.setTop (mkF m pc Ls (.int y :: .int x :: rest))) := by
  by_cases h : x = y
  · exact own_ic_neN X hx hd h (kn h)
  · exact own_ic_neY X hx hd ho hp h (ky h)
theorem own_if_neY (X : Stand p l e R s m args below meth c T locs cells slots) (hx : p.tables.exec = Jvm.exec) {pc pc' : Nat} {Ls : Array Slot} {rest : List Value} {o : Int} {x : Int32} (hd : decode c.code pc = .ok (.ifCond .ne o, 3)) (ho : 0 ≤ (pc : Int) + o) (hp : ((pc : Int) + o).toNat = pc') (h : ¬ (x = 0)) (k : own_G p e below s Q K N (T.setTop (mkF m pc' Ls rest))) : own_G p e below s Q K N (T.setTop (mkF m pc Ls (.int x :: rest))) :=
  own_go (fun _ k => XS.ifYes X.here hx rfl (pc0 := pc) (pc' := pc') rfl hd rfl ((if0 _ _).trans (feq h).2) ho hp k) k
theorem own_if_neN (X : Stand p l e R s m args below meth c T locs cells slots) (hx : p.tables.exec = Jvm.exec) {pc : Nat} {Ls : Array Slot} {rest : List Value} {o : Int} {x : Int32} (hd : decode c.code pc = .ok (.ifCond .ne o, 3)) (h : x = 0) (k : own_G p e below s Q K N (T.setTop (mkF m (pc + 3) Ls rest))) : own_G p e below s Q K N (T.setTop (mkF m pc Ls (.int x :: rest))) :=
  own_go (fun _ k => XS.ifNo X.here hx rfl hd rfl ((if0 _ _).trans (teq h).2) k) k
theorem own_if_ne (X : Stand p l e R s m args below meth c T locs cells slots) (hx : p.tables.exec = Jvm.exec) {pc pc' : Nat} {Ls : Array Slot} {rest : List Value} {o : Int} {x : Int32} (hd : decode c.code pc = .ok (.ifCond .ne o, 3)) (ho : 0 ≤ (pc : Int) + o) (hp : ((pc : Int) + o).toNat = pc') (ky : ¬ (x = 0) → own_G p e below s Q K N (T.setTop (mkF m pc' Ls rest))) (kn : x = 0 → own_G p e below s Q K N (T.setTop (mkF m (pc + 3) Ls rest))) : own_G p e below s Q K N (T.setTop (mkF m pc Ls (.int x :: rest))) := by
  by_cases h : x = 0
  · exact own_if_neN X hx hd h (kn h)
  · exact own_if_neY X hx hd ho hp h (ky h)
theorem own_nar1 : nar .boolean (1 : Int32) = 1 := rfl
theorem own_nar0 : nar .boolean (0 : Int32) = 0 := rfl
theorem own_mask (x : Int32) (k : Nat) (hk : k < 2147483648) : ∃ n : Nat, n ≤ k ∧ (x &&& Int32.ofNat k) = Int32.ofNat n := by
  refine ⟨(x &&& Int32.ofNat k).toBitVec.toNat, ?_, ?_⟩
  · have h : (Int32.ofNat k).toBitVec.toNat = k := by
      show (BitVec.ofNat 32 k).toNat = k
      rw [BitVec.toNat_ofNat]; omega
    simp only [Int32.toBitVec_and, BitVec.toNat_and, h]
    exact Nat.and_le_right
  · apply Int32.toBitVec_inj.mp
    show _ = BitVec.ofNat 32 _
    rw [BitVec.ofNat_toNat]; simp
end OwnKit
def own_FP (Z : State) (h : Heap) (x ca wa : Addr) (kc kw : ClassId) (t c0 c1 w0 w1 b r e : Int32) : Prop :=
  (Exa Z h x "com/example/relyguard/relyguard/Footprint" ∧ Fld Z h x "com/example/relyguard/relyguard/Footprint" "cells" "[I" (.ref ca) ∧ Fld Z h x "com/example/relyguard/relyguard/Footprint" "writes" "[Z" (.ref wa) ∧ Fld Z h x "com/example/relyguard/relyguard/Footprint" "touched" "I" (.int t) ∧ Fld Z h x "com/example/relyguard/relyguard/Footprint" "begins" "Z" (.int b) ∧ Fld Z h x "com/example/relyguard/relyguard/Footprint" "returns" "Z" (.int r) ∧ Fld Z h x "com/example/relyguard/relyguard/Footprint" "endsRun" "Z" (.int e)) ∧
  (Arv Z h ca kc .int 2 [.int c0, .int c1] (.int (0 : Int32)) ∧ Arv Z h wa kw .boolean 2 [.int w0, .int w1] (.int (0 : Int32))) ∧ x ≠ ca ∧ x ≠ wa ∧ ca ≠ wa
theorem own_FPkeep {Z : State} {h h' : Heap} {x ca wa : Addr} {kc kw : ClassId} {t c0 c1 w0 w1 b r e : Int32} {ws : List Addr} (F : own_FP Z h x ca wa kc kw t c0 c1 w0 w1 b r e) (K : Keep h h' ws) (h1 : x ∉ ws) (h2 : ca ∉ ws) (h3 : wa ∉ ws) : own_FP Z h' x ca wa kc kw t c0 c1 w0 w1 b r e := by
  obtain ⟨⟨f0, f1, f2, f3, f4, f5, f6⟩, ⟨v1, v2⟩, r⟩ := F
  exact ⟨⟨f0.keep K, f1.keep K h1, f2.keep K h1, f3.keep K h1, f4.keep K h1, f5.keep K h1, f6.keep K h1⟩, ⟨v1.keep K h2, v2.keep K h3⟩, r⟩
theorem own_FPext {Z : State} {h h' : Heap} {x ca wa : Addr} {kc kw : ClassId} {t c0 c1 w0 w1 b r e : Int32} (F : own_FP Z h x ca wa kc kw t c0 c1 w0 w1 b r e) (E : Ext h h') : own_FP Z h' x ca wa kc kw t c0 c1 w0 w1 b r e := by
  obtain ⟨⟨f0, f1, f2, f3, f4, f5, f6⟩, ⟨v1, v2⟩, r⟩ := F
  exact ⟨⟨f0.ext E, f1.ext E, f2.ext E, f3.ext E, f4.ext E, f5.ext E, f6.ext E⟩, ⟨v1.ext E, v2.ext E⟩, r⟩
theorem own_nar01 {w : Int32} (h : w = 0 ∨ w = 1) : nar .boolean w = w := by rcases h with rfl | rfl <;> rfl
def own_cf (c w d v : Int32) : Prop := c = d ∧ (¬ w = 0 ∨ ¬ v = 0)
/-- some pair of touched cells conflicts -/
def own_C (t u c0 c1 w0 w1 d0 d1 v0 v1 : Int32) : Prop := (0 < t ∧ 0 < u ∧ own_cf c0 w0 d0 v0) ∨ (0 < t ∧ 1 < u ∧ own_cf c0 w0 d1 v1) ∨ (1 < t ∧ 0 < u ∧ own_cf c1 w1 d0 v0) ∨ (1 < t ∧ 1 < u ∧ own_cf c1 w1 d1 v1)
def own_D (e1 e2 b1 r1 b2 r2 : Int32) (C : Prop) : Prop := ¬ e1 = 0 ∨ ¬ e2 = 0 ∨ (¬ b1 = 0 ∧ ¬ r2 = 0) ∨ (¬ r1 = 0 ∧ ¬ b2 = 0) ∨ C
theorem own_Dno {e1 e2 b1 r1 b2 r2 : Int32} {C : Prop} (h1 : e1 = 0) (h2 : e2 = 0) (h3 : ¬ (¬ b1 = 0 ∧ ¬ r2 = 0)) (h4 : ¬ (¬ r1 = 0 ∧ ¬ b2 = 0)) (h5 : ¬ C) : ¬ own_D e1 e2 b1 r1 b2 r2 C := by
  rintro (q | q | q | q | q)
  · exact q h1
  · exact q h2
  · exact h3 q
  · exact h4 q
  · exact h5 q
theorem d1_0 : decode method_2_code 0 = .ok (.iload_n 0, 1) := by decide +kernel
theorem d1_1 : decode method_2_code 1 = .ok (.iload_n 1, 1) := by decide +kernel
theorem d1_2 : decode method_2_code 2 = .ok (.iushr, 1) := by decide +kernel
theorem d1_3 : decode method_2_code 3 = .ok (.iconst 1, 1) := by decide +kernel
theorem d1_4 : decode method_2_code 4 = .ok (.iand, 1) := by decide +kernel
theorem d1_5 : decode method_2_code 5 = .ok (.ifCond .eq 7, 3) := by decide +kernel
theorem d1_8 : decode method_2_code 8 = .ok (.iconst 1, 1) := by decide +kernel
theorem d1_9 : decode method_2_code 9 = .ok (.goto 4, 3) := by decide +kernel
theorem d1_12 : decode method_2_code 12 = .ok (.iconst 0, 1) := by decide +kernel
theorem d1_13 : decode method_2_code 13 = .ok (.ireturn, 1) := by decide +kernel
theorem pn_0 : plainName "com/example/relyguard/relyguard/FootprintDependsOnPinLaw" = true := by first | (simp [plainName, overriddenIn]; done) | decide +kernel
theorem ef_rmBit (m : MethodId) (x0 : Int32) (x1 : Int32) : entryFrame m #[(.int x0), (.int x1)] 2 = mkF m 0 #[.val (.int x0), .val (.int x1)] [] := by first | (simp [entryFrame, mkF, argsToLocals, Value.category]; done) | rfl
def Q_rmBit (Z : State) (x0 x1 : Int32) (h0 : Heap) (n0 : Nat) : Option Value → Heap → List Loc → Prop := fun v h L => ∃ B : Int32, v = some (.int B) ∧ Fr n0 L ∧ h = h0 ∧ (B = 0 ∨ B = 1)
set_option maxRecDepth 65536 in
set_option maxHeartbeats 40000000 in
theorem rmBit (l : Launch) (Z : State) (a0 : Array Value) (hw : ∀ d ∈ tables_1, d.before a0 Z = true) (ws : List Jvm.Cond) (x0 x1 : Int32) (h0 : Heap) (n0 : Nat) (Z0 : n0 ≤ h0.size)  :
    MetFree l (⟨"com/example/relyguard/relyguard/FootprintDependsOnPinLaw", "bit", "(II)Z"⟩ : MethodName) (head1 (Jvm.Cond.code (⟨"com/example/relyguard/relyguard/FootprintDependsOnPinLaw", "bit", "(II)Z"⟩ : MethodName) method_2_code 2 (some .boolean) :: ws) ({ frames := 0, cells := 0, slots := 0, locals := 0 } : Room)) (fun as_ U => as_ = #[(.int x0), (.int x1)] ∧ Z.Warmed39 U.vm ∧ U.heap = h0) (fun _ _ _ _ _ => True) (fun _ U o U' => ∃ v L, o = .returned v ∧ (Q_rmBit Z x0 x1 h0 n0) v U'.heap L ∧ FrameEnd U o U' L ({ frames := 0, cells := 0, slots := 0, locals := 0 } : Room).cells ({ frames := 0, cells := 0, slots := 0, locals := 0 } : Room).slots) := by
  refine MetFree.of_bodySF (plainFor_of_name pn_0) hisR ?_
  intro p e s m args below meth c s₁ Bd hml0 hP hK
  obtain ⟨rfl, hZ, hh⟩ := hP
  have hx := Bd.exec
  have hby := Bd.bytes
  have hml : c.maxLocals = 2 := hml0
  have hown : s.vm.findClass "com/example/relyguard/relyguard/FootprintDependsOnPinLaw" = some m.cls := findClass_of_methodNamed Bd.named
  have hnm := (name_of_methodNamed Bd.named Bd.method).1
  have X0 : Stand p l e ({ frames := 0, cells := 0, slots := 0, locals := 0 } : Room) s m #[(.int x0), (.int x1)] below meth c s₁ [] 0 0 := Stand.of_body Bd
  have e0 : s₁.heap = h0 := by rw [← hh, Bd.state]; rfl
  have N0 := Fr.nil n0
  show own_G p e below s (Q_rmBit Z x0 x1 h0 n0) ({ frames := 0, cells := 0, slots := 0, locals := 0 } : Room).cells ({ frames := 0, cells := 0, slots := 0, locals := 0 } : Room).slots (s₁.setTop (entryFrame m #[(.int x0), (.int x1)] 2))
  rw [ef_rmBit m x0 x1]
  show own_G p e below s _ _ _ (s₁.setTop (mkF m 0 #[.val (.int x0), .val (.int x1)] []))
  refine own_go (fun _ kk_ => XS.iloadN X0.here hx rfl (hb hby d1_0) rfl kk_) ?_
  show own_G p e below s _ _ _ (s₁.setTop (mkF m 1 #[.val (.int x0), .val (.int x1)] [(.int x0)]))
  refine own_go (fun _ kk_ => XS.iloadN X0.here hx rfl (hb hby d1_1) rfl kk_) ?_
  show own_G p e below s _ _ _ (s₁.setTop (mkF m 2 #[.val (.int x0), .val (.int x1)] [(.int x1), (.int x0)]))
  refine own_go (fun _ kk_ => XS.iushr X0.here hx rfl (hb hby d1_2) rfl kk_) ?_
  show own_G p e below s _ _ _ (s₁.setTop (mkF m 3 #[.val (.int x0), .val (.int x1)] [(.int ((x0.toUInt32 >>> (x1 &&& 31).toUInt32).toInt32))]))
  refine own_go (fun _ kk_ => XS.iconst X0.here hx rfl (hb hby d1_3) kk_) ?_
  show own_G p e below s _ _ _ (s₁.setTop (mkF m 4 #[.val (.int x0), .val (.int x1)] [(.int (1 : Int32)), (.int ((x0.toUInt32 >>> (x1 &&& 31).toUInt32).toInt32))]))
  refine own_go (fun _ kk_ => XS.iand X0.here hx rfl (hb hby d1_4) rfl kk_) ?_
  show own_G p e below s _ _ _ (s₁.setTop (mkF m 5 #[.val (.int x0), .val (.int x1)] [(.int (((x0.toUInt32 >>> (x1 &&& 31).toUInt32).toInt32) &&& (1 : Int32)))]))
  refine own_if_eq X0 hx (pc := 5) (pc' := 12) (hb hby d1_5) (by decide) (by decide) (fun hc5 => ?_) (fun hc5 => ?_)
  · show own_G p e below s _ _ _ (s₁.setTop (mkF m 12 #[.val (.int x0), .val (.int x1)] []))
    refine own_go (fun _ kk_ => XS.iconst X0.here hx rfl (hb hby d1_12) kk_) ?_
    show own_G p e below s _ _ _ (s₁.setTop (mkF m 13 #[.val (.int x0), .val (.int x1)] [(.int (0 : Int32))]))
    exact own_retN (t := .boolean) (ht := by simp) X0 hx Bd.returns (BodyLoose.notSynchronized Bd) (hb hby d1_13) e0 ⟨_, rfl, N0, rfl, Or.inl rfl⟩ (by decide) (by decide)
  · show own_G p e below s _ _ _ (s₁.setTop (mkF m 8 #[.val (.int x0), .val (.int x1)] []))
    refine own_go (fun _ kk_ => XS.iconst X0.here hx rfl (hb hby d1_8) kk_) ?_
    show own_G p e below s _ _ _ (s₁.setTop (mkF m 9 #[.val (.int x0), .val (.int x1)] [(.int (1 : Int32))]))
    refine own_go (fun _ kk_ => XS.goto X0.here hx rfl (pc0 := 9) (pc' := 13) rfl (hb hby d1_9) (by decide) (by decide) kk_) ?_
    show own_G p e below s _ _ _ (s₁.setTop (mkF m 13 #[.val (.int x0), .val (.int x1)] [(.int (1 : Int32))]))
    exact own_retN (t := .boolean) (ht := by simp) X0 hx Bd.returns (BodyLoose.notSynchronized Bd) (hb hby d1_13) e0 ⟨_, rfl, N0, rfl, Or.inr rfl⟩ (by decide) (by decide)
theorem d2_0 : decode method_4_code 0 = .ok (.iload_n 0, 1) := by decide +kernel
theorem d2_1 : decode method_4_code 1 = .ok (.iconst 1, 1) := by decide +kernel
theorem d2_2 : decode method_4_code 2 = .ok (.if_icmp .ne 5, 3) := by decide +kernel
theorem d2_5 : decode method_4_code 5 = .ok (.iload_n 2, 1) := by decide +kernel
theorem d2_6 : decode method_4_code 6 = .ok (.ireturn, 1) := by decide +kernel
theorem d2_7 : decode method_4_code 7 = .ok (.iload_n 0, 1) := by decide +kernel
theorem d2_8 : decode method_4_code 8 = .ok (.iconst 2, 1) := by decide +kernel
theorem d2_9 : decode method_4_code 9 = .ok (.if_icmp .ne 5, 3) := by decide +kernel
theorem d2_12 : decode method_4_code 12 = .ok (.iload_n 3, 1) := by decide +kernel
theorem d2_13 : decode method_4_code 13 = .ok (.ireturn, 1) := by decide +kernel
theorem d2_14 : decode method_4_code 14 = .ok (.iload_n 1, 1) := by decide +kernel
theorem d2_15 : decode method_4_code 15 = .ok (.ireturn, 1) := by decide +kernel
theorem ef_rmPick (m : MethodId) (x0 : Int32) (x1 : Int32) (x2 : Int32) (x3 : Int32) : entryFrame m #[(.int x0), (.int x1), (.int x2), (.int x3)] 4 = mkF m 0 #[.val (.int x0), .val (.int x1), .val (.int x2), .val (.int x3)] [] := by first | (simp [entryFrame, mkF, argsToLocals, Value.category]; done) | rfl
def Q_rmPick (Z : State) (x0 x1 x2 x3 : Int32) (h0 : Heap) (n0 : Nat) : Option Value → Heap → List Loc → Prop := fun v h L => ∃ B : Int32, v = some (.int B) ∧ Fr n0 L ∧ h = h0
set_option maxRecDepth 65536 in
set_option maxHeartbeats 40000000 in
theorem rmPick (l : Launch) (Z : State) (a0 : Array Value) (hw : ∀ d ∈ tables_1, d.before a0 Z = true) (ws : List Jvm.Cond) (x0 x1 x2 x3 : Int32) (h0 : Heap) (n0 : Nat) (Z0 : n0 ≤ h0.size)  :
    MetFree l (⟨"com/example/relyguard/relyguard/FootprintDependsOnPinLaw", "pick", "(IIII)I"⟩ : MethodName) (head1 (Jvm.Cond.code (⟨"com/example/relyguard/relyguard/FootprintDependsOnPinLaw", "pick", "(IIII)I"⟩ : MethodName) method_4_code 4 (some .int) :: ws) ({ frames := 0, cells := 0, slots := 0, locals := 0 } : Room)) (fun as_ U => as_ = #[(.int x0), (.int x1), (.int x2), (.int x3)] ∧ Z.Warmed39 U.vm ∧ U.heap = h0) (fun _ _ _ _ _ => True) (fun _ U o U' => ∃ v L, o = .returned v ∧ (Q_rmPick Z x0 x1 x2 x3 h0 n0) v U'.heap L ∧ FrameEnd U o U' L ({ frames := 0, cells := 0, slots := 0, locals := 0 } : Room).cells ({ frames := 0, cells := 0, slots := 0, locals := 0 } : Room).slots) := by
  refine MetFree.of_bodySF (plainFor_of_name pn_0) hisR ?_
  intro p e s m args below meth c s₁ Bd hml0 hP hK
  obtain ⟨rfl, hZ, hh⟩ := hP
  have hx := Bd.exec
  have hby := Bd.bytes
  have hml : c.maxLocals = 4 := hml0
  have hown : s.vm.findClass "com/example/relyguard/relyguard/FootprintDependsOnPinLaw" = some m.cls := findClass_of_methodNamed Bd.named
  have hnm := (name_of_methodNamed Bd.named Bd.method).1
  have X0 : Stand p l e ({ frames := 0, cells := 0, slots := 0, locals := 0 } : Room) s m #[(.int x0), (.int x1), (.int x2), (.int x3)] below meth c s₁ [] 0 0 := Stand.of_body Bd
  have e0 : s₁.heap = h0 := by rw [← hh, Bd.state]; rfl
  have N0 := Fr.nil n0
  show own_G p e below s (Q_rmPick Z x0 x1 x2 x3 h0 n0) ({ frames := 0, cells := 0, slots := 0, locals := 0 } : Room).cells ({ frames := 0, cells := 0, slots := 0, locals := 0 } : Room).slots (s₁.setTop (entryFrame m #[(.int x0), (.int x1), (.int x2), (.int x3)] 4))
  rw [ef_rmPick m x0 x1 x2 x3]
  show own_G p e below s _ _ _ (s₁.setTop (mkF m 0 #[.val (.int x0), .val (.int x1), .val (.int x2), .val (.int x3)] []))
  refine own_go (fun _ kk_ => XS.iloadN X0.here hx rfl (hb hby d2_0) rfl kk_) ?_
  show own_G p e below s _ _ _ (s₁.setTop (mkF m 1 #[.val (.int x0), .val (.int x1), .val (.int x2), .val (.int x3)] [(.int x0)]))
  refine own_go (fun _ kk_ => XS.iconst X0.here hx rfl (hb hby d2_1) kk_) ?_
  show own_G p e below s _ _ _ (s₁.setTop (mkF m 2 #[.val (.int x0), .val (.int x1), .val (.int x2), .val (.int x3)] [(.int (1 : Int32)), (.int x0)]))
  refine own_ic_ne X0 hx (pc := 2) (pc' := 7) (hb hby d2_2) (by decide) (by decide) (fun hc2 => ?_) (fun hc2 => ?_)
  · show own_G p e below s _ _ _ (s₁.setTop (mkF m 7 #[.val (.int x0), .val (.int x1), .val (.int x2), .val (.int x3)] []))
    refine own_go (fun _ kk_ => XS.iloadN X0.here hx rfl (hb hby d2_7) rfl kk_) ?_
    show own_G p e below s _ _ _ (s₁.setTop (mkF m 8 #[.val (.int x0), .val (.int x1), .val (.int x2), .val (.int x3)] [(.int x0)]))
    refine own_go (fun _ kk_ => XS.iconst X0.here hx rfl (hb hby d2_8) kk_) ?_
    show own_G p e below s _ _ _ (s₁.setTop (mkF m 9 #[.val (.int x0), .val (.int x1), .val (.int x2), .val (.int x3)] [(.int (2 : Int32)), (.int x0)]))
    refine own_ic_ne X0 hx (pc := 9) (pc' := 14) (hb hby d2_9) (by decide) (by decide) (fun hc9 => ?_) (fun hc9 => ?_)
    · show own_G p e below s _ _ _ (s₁.setTop (mkF m 14 #[.val (.int x0), .val (.int x1), .val (.int x2), .val (.int x3)] []))
      refine own_go (fun _ kk_ => XS.iloadN X0.here hx rfl (hb hby d2_14) rfl kk_) ?_
      show own_G p e below s _ _ _ (s₁.setTop (mkF m 15 #[.val (.int x0), .val (.int x1), .val (.int x2), .val (.int x3)] [(.int x1)]))
      exact own_retI X0 hx Bd.returns (BodyLoose.notSynchronized Bd) (hb hby d2_15) e0 ⟨_, rfl, N0, rfl⟩ (by decide) (by decide)
    · show own_G p e below s _ _ _ (s₁.setTop (mkF m 12 #[.val (.int x0), .val (.int x1), .val (.int x2), .val (.int x3)] []))
      refine own_go (fun _ kk_ => XS.iloadN X0.here hx rfl (hb hby d2_12) rfl kk_) ?_
      show own_G p e below s _ _ _ (s₁.setTop (mkF m 13 #[.val (.int x0), .val (.int x1), .val (.int x2), .val (.int x3)] [(.int x3)]))
      exact own_retI X0 hx Bd.returns (BodyLoose.notSynchronized Bd) (hb hby d2_13) e0 ⟨_, rfl, N0, rfl⟩ (by decide) (by decide)
  · show own_G p e below s _ _ _ (s₁.setTop (mkF m 5 #[.val (.int x0), .val (.int x1), .val (.int x2), .val (.int x3)] []))
    refine own_go (fun _ kk_ => XS.iloadN X0.here hx rfl (hb hby d2_5) rfl kk_) ?_
    show own_G p e below s _ _ _ (s₁.setTop (mkF m 6 #[.val (.int x0), .val (.int x1), .val (.int x2), .val (.int x3)] [(.int x2)]))
    exact own_retI X0 hx Bd.returns (BodyLoose.notSynchronized Bd) (hb hby d2_6) e0 ⟨_, rfl, N0, rfl⟩ (by decide) (by decide)
theorem d17_0 : decode method_3_code 0 = .ok (.iload_n 0, 1) := by decide +kernel
theorem d17_1 : decode method_3_code 1 = .ok (.iload_n 2, 1) := by decide +kernel
theorem d17_2 : decode method_3_code 2 = .ok (.if_icmp .ne 15, 3) := by decide +kernel
theorem d17_5 : decode method_3_code 5 = .ok (.iload_n 1, 1) := by decide +kernel
theorem d17_6 : decode method_3_code 6 = .ok (.ifCond .ne 7, 3) := by decide +kernel
theorem d17_9 : decode method_3_code 9 = .ok (.iload_n 3, 1) := by decide +kernel
theorem d17_10 : decode method_3_code 10 = .ok (.ifCond .eq 7, 3) := by decide +kernel
theorem d17_13 : decode method_3_code 13 = .ok (.iconst 1, 1) := by decide +kernel
theorem d17_14 : decode method_3_code 14 = .ok (.goto 4, 3) := by decide +kernel
theorem d17_17 : decode method_3_code 17 = .ok (.iconst 0, 1) := by decide +kernel
theorem d17_18 : decode method_3_code 18 = .ok (.ireturn, 1) := by decide +kernel
theorem ef_rmCf (m : MethodId) (x0 : Int32) (x1 : Int32) (x2 : Int32) (x3 : Int32) : entryFrame m #[(.int x0), (.int x1), (.int x2), (.int x3)] 4 = mkF m 0 #[.val (.int x0), .val (.int x1), .val (.int x2), .val (.int x3)] [] := by first | (simp [entryFrame, mkF, argsToLocals, Value.category]; done) | rfl
def Q_rmCf (Z : State) (x0 x1 x2 x3 : Int32) (h0 : Heap) (n0 : Nat) : Option Value → Heap → List Loc → Prop := fun v h L => ∃ B : Int32, v = some (.int B) ∧ Fr n0 L ∧ h = h0 ∧ ((B = 1 ∧ own_cf x0 x1 x2 x3) ∨ (B = 0 ∧ ¬ own_cf x0 x1 x2 x3))
set_option maxRecDepth 65536 in
set_option maxHeartbeats 40000000 in
theorem rmCf (l : Launch) (Z : State) (a0 : Array Value) (hw : ∀ d ∈ tables_1, d.before a0 Z = true) (ws : List Jvm.Cond) (x0 x1 x2 x3 : Int32) (h0 : Heap) (n0 : Nat) (Z0 : n0 ≤ h0.size)  :
    MetFree l (⟨"com/example/relyguard/relyguard/FootprintDependsOnPinLaw", "conflict", "(IZIZ)Z"⟩ : MethodName) (head1 (Jvm.Cond.code (⟨"com/example/relyguard/relyguard/FootprintDependsOnPinLaw", "conflict", "(IZIZ)Z"⟩ : MethodName) method_3_code 4 (some .boolean) :: ws) ({ frames := 0, cells := 0, slots := 0, locals := 0 } : Room)) (fun as_ U => as_ = #[(.int x0), (.int x1), (.int x2), (.int x3)] ∧ Z.Warmed39 U.vm ∧ U.heap = h0) (fun _ _ _ _ _ => True) (fun _ U o U' => ∃ v L, o = .returned v ∧ (Q_rmCf Z x0 x1 x2 x3 h0 n0) v U'.heap L ∧ FrameEnd U o U' L ({ frames := 0, cells := 0, slots := 0, locals := 0 } : Room).cells ({ frames := 0, cells := 0, slots := 0, locals := 0 } : Room).slots) := by
  refine MetFree.of_bodySF (plainFor_of_name pn_0) hisR ?_
  intro p e s m args below meth c s₁ Bd hml0 hP hK
  obtain ⟨rfl, hZ, hh⟩ := hP
  have hx := Bd.exec
  have hby := Bd.bytes
  have hml : c.maxLocals = 4 := hml0
  have hown : s.vm.findClass "com/example/relyguard/relyguard/FootprintDependsOnPinLaw" = some m.cls := findClass_of_methodNamed Bd.named
  have hnm := (name_of_methodNamed Bd.named Bd.method).1
  have X0 : Stand p l e ({ frames := 0, cells := 0, slots := 0, locals := 0 } : Room) s m #[(.int x0), (.int x1), (.int x2), (.int x3)] below meth c s₁ [] 0 0 := Stand.of_body Bd
  have e0 : s₁.heap = h0 := by rw [← hh, Bd.state]; rfl
  have N0 := Fr.nil n0
  show own_G p e below s (Q_rmCf Z x0 x1 x2 x3 h0 n0) ({ frames := 0, cells := 0, slots := 0, locals := 0 } : Room).cells ({ frames := 0, cells := 0, slots := 0, locals := 0 } : Room).slots (s₁.setTop (entryFrame m #[(.int x0), (.int x1), (.int x2), (.int x3)] 4))
  rw [ef_rmCf m x0 x1 x2 x3]
  show own_G p e below s _ _ _ (s₁.setTop (mkF m 0 #[.val (.int x0), .val (.int x1), .val (.int x2), .val (.int x3)] []))
  refine own_go (fun _ kk_ => XS.iloadN X0.here hx rfl (hb hby d17_0) rfl kk_) ?_
  show own_G p e below s _ _ _ (s₁.setTop (mkF m 1 #[.val (.int x0), .val (.int x1), .val (.int x2), .val (.int x3)] [(.int x0)]))
  refine own_go (fun _ kk_ => XS.iloadN X0.here hx rfl (hb hby d17_1) rfl kk_) ?_
  show own_G p e below s _ _ _ (s₁.setTop (mkF m 2 #[.val (.int x0), .val (.int x1), .val (.int x2), .val (.int x3)] [(.int x2), (.int x0)]))
  refine own_ic_ne X0 hx (pc := 2) (pc' := 17) (hb hby d17_2) (by decide) (by decide) (fun hc2 => ?_) (fun hc2 => ?_)
  · show own_G p e below s _ _ _ (s₁.setTop (mkF m 17 #[.val (.int x0), .val (.int x1), .val (.int x2), .val (.int x3)] []))
    refine own_go (fun _ kk_ => XS.iconst X0.here hx rfl (hb hby d17_17) kk_) ?_
    show own_G p e below s _ _ _ (s₁.setTop (mkF m 18 #[.val (.int x0), .val (.int x1), .val (.int x2), .val (.int x3)] [(.int (0 : Int32))]))
    exact own_retN (t := .boolean) (ht := by simp) X0 hx Bd.returns (BodyLoose.notSynchronized Bd) (hb hby d17_18) e0 ⟨_, rfl, N0, rfl, Or.inr ⟨rfl, fun q => hc2 q.1⟩⟩ (by decide) (by decide)
  · show own_G p e below s _ _ _ (s₁.setTop (mkF m 5 #[.val (.int x0), .val (.int x1), .val (.int x2), .val (.int x3)] []))
    refine own_go (fun _ kk_ => XS.iloadN X0.here hx rfl (hb hby d17_5) rfl kk_) ?_
    show own_G p e below s _ _ _ (s₁.setTop (mkF m 6 #[.val (.int x0), .val (.int x1), .val (.int x2), .val (.int x3)] [(.int x1)]))
    refine own_if_ne X0 hx (pc := 6) (pc' := 13) (hb hby d17_6) (by decide) (by decide) (fun hc6 => ?_) (fun hc6 => ?_)
    · show own_G p e below s _ _ _ (s₁.setTop (mkF m 13 #[.val (.int x0), .val (.int x1), .val (.int x2), .val (.int x3)] []))
      refine own_go (fun _ kk_ => XS.iconst X0.here hx rfl (hb hby d17_13) kk_) ?_
      show own_G p e below s _ _ _ (s₁.setTop (mkF m 14 #[.val (.int x0), .val (.int x1), .val (.int x2), .val (.int x3)] [(.int (1 : Int32))]))
      refine own_go (fun _ kk_ => XS.goto X0.here hx rfl (pc0 := 14) (pc' := 18) rfl (hb hby d17_14) (by decide) (by decide) kk_) ?_
      show own_G p e below s _ _ _ (s₁.setTop (mkF m 18 #[.val (.int x0), .val (.int x1), .val (.int x2), .val (.int x3)] [(.int (1 : Int32))]))
      exact own_retN (t := .boolean) (ht := by simp) X0 hx Bd.returns (BodyLoose.notSynchronized Bd) (hb hby d17_18) e0 ⟨_, rfl, N0, rfl, Or.inl ⟨rfl, hc2, Or.inl hc6⟩⟩ (by decide) (by decide)
    · show own_G p e below s _ _ _ (s₁.setTop (mkF m 9 #[.val (.int x0), .val (.int x1), .val (.int x2), .val (.int x3)] []))
      refine own_go (fun _ kk_ => XS.iloadN X0.here hx rfl (hb hby d17_9) rfl kk_) ?_
      show own_G p e below s _ _ _ (s₁.setTop (mkF m 10 #[.val (.int x0), .val (.int x1), .val (.int x2), .val (.int x3)] [(.int x3)]))
      refine own_if_eq X0 hx (pc := 10) (pc' := 17) (hb hby d17_10) (by decide) (by decide) (fun hc10 => ?_) (fun hc10 => ?_)
      · show own_G p e below s _ _ _ (s₁.setTop (mkF m 17 #[.val (.int x0), .val (.int x1), .val (.int x2), .val (.int x3)] []))
        refine own_go (fun _ kk_ => XS.iconst X0.here hx rfl (hb hby d17_17) kk_) ?_
        show own_G p e below s _ _ _ (s₁.setTop (mkF m 18 #[.val (.int x0), .val (.int x1), .val (.int x2), .val (.int x3)] [(.int (0 : Int32))]))
        exact own_retN (t := .boolean) (ht := by simp) X0 hx Bd.returns (BodyLoose.notSynchronized Bd) (hb hby d17_18) e0 ⟨_, rfl, N0, rfl, Or.inr ⟨rfl, fun q => q.2.elim (fun z => z hc6) (fun z => z hc10)⟩⟩ (by decide) (by decide)
      · show own_G p e below s _ _ _ (s₁.setTop (mkF m 13 #[.val (.int x0), .val (.int x1), .val (.int x2), .val (.int x3)] []))
        refine own_go (fun _ kk_ => XS.iconst X0.here hx rfl (hb hby d17_13) kk_) ?_
        show own_G p e below s _ _ _ (s₁.setTop (mkF m 14 #[.val (.int x0), .val (.int x1), .val (.int x2), .val (.int x3)] [(.int (1 : Int32))]))
        refine own_go (fun _ kk_ => XS.goto X0.here hx rfl (pc0 := 14) (pc' := 18) rfl (hb hby d17_14) (by decide) (by decide) kk_) ?_
        show own_G p e below s _ _ _ (s₁.setTop (mkF m 18 #[.val (.int x0), .val (.int x1), .val (.int x2), .val (.int x3)] [(.int (1 : Int32))]))
        exact own_retN (t := .boolean) (ht := by simp) X0 hx Bd.returns (BodyLoose.notSynchronized Bd) (hb hby d17_18) e0 ⟨_, rfl, N0, rfl, Or.inl ⟨rfl, hc2, Or.inr hc10⟩⟩ (by decide) (by decide)
theorem d7_0 : decode jdk_92_method_1_code 0 = .ok (.iload_n 0, 1) := by decide +kernel
theorem d7_1 : decode jdk_92_method_1_code 1 = .ok (.bipush 6, 2) := by decide +kernel
theorem d7_3 : decode jdk_92_method_1_code 3 = .ok (.ishr, 1) := by decide +kernel
theorem d7_4 : decode jdk_92_method_1_code 4 = .ok (.ireturn, 1) := by decide +kernel
theorem pn_1 : plainName "java/util/BitSet" = true := by first | (simp [plainName, overriddenIn]; done) | decide +kernel
theorem ef_rmWI (m : MethodId) (x0 : Int32) : entryFrame m #[(.int x0)] 1 = mkF m 0 #[.val (.int x0)] [] := by first | (simp [entryFrame, mkF, argsToLocals, Value.category]; done) | rfl
def Q_rmWI (Z : State) (x0 : Int32) (h0 : Heap) (n0 : Nat) : Option Value → Heap → List Loc → Prop := fun v h L => v = some (.int (x0 >>> ((6 : Int32) &&& 31))) ∧ Fr n0 L ∧ h = h0
set_option maxRecDepth 65536 in
set_option maxHeartbeats 40000000 in
theorem rmWI (l : Launch) (Z : State) (a0 : Array Value) (hw : ∀ d ∈ tables_1, d.before a0 Z = true) (ws : List Jvm.Cond) (x0 : Int32) (h0 : Heap) (n0 : Nat) (Z0 : n0 ≤ h0.size)  :
    MetFree l (⟨"java/util/BitSet", "wordIndex", "(I)I"⟩ : MethodName) (head1 (Jvm.Cond.code (⟨"java/util/BitSet", "wordIndex", "(I)I"⟩ : MethodName) jdk_92_method_1_code 1 (some .int) :: ws) ({ frames := 0, cells := 0, slots := 0, locals := 0 } : Room)) (fun as_ U => as_ = #[(.int x0)] ∧ Z.Warmed39 U.vm ∧ U.heap = h0) (fun _ _ _ _ _ => True) (fun _ U o U' => ∃ v L, o = .returned v ∧ (Q_rmWI Z x0 h0 n0) v U'.heap L ∧ FrameEnd U o U' L ({ frames := 0, cells := 0, slots := 0, locals := 0 } : Room).cells ({ frames := 0, cells := 0, slots := 0, locals := 0 } : Room).slots) := by
  refine MetFree.of_bodySF (plainFor_of_name pn_1) hisR ?_
  intro p e s m args below meth c s₁ Bd hml0 hP hK
  obtain ⟨rfl, hZ, hh⟩ := hP
  have hx := Bd.exec
  have hby := Bd.bytes
  have hml : c.maxLocals = 1 := hml0
  have hown : s.vm.findClass "java/util/BitSet" = some m.cls := findClass_of_methodNamed Bd.named
  have hnm := (name_of_methodNamed Bd.named Bd.method).1
  have X0 : Stand p l e ({ frames := 0, cells := 0, slots := 0, locals := 0 } : Room) s m #[(.int x0)] below meth c s₁ [] 0 0 := Stand.of_body Bd
  have e0 : s₁.heap = h0 := by rw [← hh, Bd.state]; rfl
  have N0 := Fr.nil n0
  show own_G p e below s (Q_rmWI Z x0 h0 n0) ({ frames := 0, cells := 0, slots := 0, locals := 0 } : Room).cells ({ frames := 0, cells := 0, slots := 0, locals := 0 } : Room).slots (s₁.setTop (entryFrame m #[(.int x0)] 1))
  rw [ef_rmWI m x0]
  show own_G p e below s _ _ _ (s₁.setTop (mkF m 0 #[.val (.int x0)] []))
  refine own_go (fun _ kk_ => XS.iloadN X0.here hx rfl (hb hby d7_0) rfl kk_) ?_
  show own_G p e below s _ _ _ (s₁.setTop (mkF m 1 #[.val (.int x0)] [(.int x0)]))
  refine own_go (fun _ kk_ => XS.bipush X0.here hx rfl (hb hby d7_1) kk_) ?_
  show own_G p e below s _ _ _ (s₁.setTop (mkF m 3 #[.val (.int x0)] [(.int (6 : Int32)), (.int x0)]))
  refine own_go (fun _ kk_ => XS.ishr X0.here hx rfl (hb hby d7_3) rfl kk_) ?_
  show own_G p e below s _ _ _ (s₁.setTop (mkF m 4 #[.val (.int x0)] [(.int (x0 >>> ((6 : Int32) &&& 31)))]))
  exact own_retI X0 hx Bd.returns (BodyLoose.notSynchronized Bd) (hb hby d7_4) e0 ⟨rfl, N0, rfl⟩ (by decide) (by decide)
theorem d6_0 : decode jdk_92_method_6_code 0 = .ok (.aload_n 0, 1) := by decide +kernel
theorem d6_1 : decode jdk_92_method_6_code 1 = .ok (.iload_n 1, 1) := by decide +kernel
theorem d6_2 : decode jdk_92_method_6_code 2 = .ok (.iconst 1, 1) := by decide +kernel
theorem d6_3 : decode jdk_92_method_6_code 3 = .ok (.isub, 1) := by decide +kernel
theorem d6_4 : decode jdk_92_method_6_code 4 = .ok (.invokestatic 52, 3) := by decide +kernel
theorem d6_7 : decode jdk_92_method_6_code 7 = .ok (.iconst 1, 1) := by decide +kernel
theorem d6_8 : decode jdk_92_method_6_code 8 = .ok (.iadd, 1) := by decide +kernel
theorem d6_9 : decode jdk_92_method_6_code 9 = .ok (.newarray .long, 2) := by decide +kernel
theorem d6_11 : decode jdk_92_method_6_code 11 = .ok (.putfield 11, 3) := by decide +kernel
theorem d6_14 : decode jdk_92_method_6_code 14 = .ok (.return_, 1) := by decide +kernel
theorem pd_0 : parseMethodDescriptor "(I)I" = some ⟨[.int], some .int⟩ := by decide +kernel
theorem ef_rmIW (m : MethodId) (x0 : Addr) (x1 : Int32) : entryFrame m #[(.ref x0), (.int x1)] 2 = mkF m 0 #[.val (.ref x0), .val (.int x1)] [] := by first | (simp [entryFrame, mkF, argsToLocals, Value.category]; done) | rfl
def Q_rmIW (Z : State) (b : Addr) (h0 : Heap) (n0 : Nat) : Option Value → Heap → List Loc → Prop := fun v h L => v = none ∧ Fr n0 L ∧ n0 ≤ h.size ∧ Keep h0 h [b] ∧ Fld Z h b "java/util/BitSet" "wordsInUse" "I" (.int (0 : Int32)) ∧ Fld Z h b "java/util/BitSet" "sizeIsSticky" "Z" (.int (0 : Int32)) ∧ ∃ (wd : Addr) (kw : ClassId), h0.size ≤ wd ∧ Fld Z h b "java/util/BitSet" "words" "[J" (.ref wd) ∧ Arv Z h wd kw .long 1 [.long (0 : Int64)] (.long (0 : Int64))
set_option maxRecDepth 65536 in
set_option maxHeartbeats 40000000 in
theorem rmIW (l : Launch) (Z : State) (a0 : Array Value) (hw : ∀ d ∈ tables_1, d.before a0 Z = true) (ws : List Jvm.Cond) (b : Addr) (h0 : Heap) (n0 : Nat) (Z0 : n0 ≤ h0.size) (E_b : Exa Z h0 b "java/util/BitSet") (g_b : n0 ≤ b) (F_u : Fld Z h0 b "java/util/BitSet" "wordsInUse" "I" (.int (0 : Int32))) (F_s : Fld Z h0 b "java/util/BitSet" "sizeIsSticky" "Z" (.int (0 : Int32))) (F_w : Fld Z h0 b "java/util/BitSet" "words" "[J" .null) :
    MetFree l (⟨"java/util/BitSet", "initWords", "(I)V"⟩ : MethodName) (head1 (Jvm.Cond.code (⟨"java/util/BitSet", "initWords", "(I)V"⟩ : MethodName) jdk_92_method_6_code 2 none :: ws) ({ frames := 1, cells := 1, slots := 1, locals := 13 } : Room)) (fun as_ U => as_ = #[(.ref b), (.int (64 : Int32))] ∧ Z.Warmed39 U.vm ∧ U.heap = h0) (fun _ _ _ _ _ => True) (fun _ U o U' => ∃ v L, o = .returned v ∧ (Q_rmIW Z b h0 n0) v U'.heap L ∧ FrameEnd U o U' L ({ frames := 1, cells := 1, slots := 1, locals := 13 } : Room).cells ({ frames := 1, cells := 1, slots := 1, locals := 13 } : Room).slots) := by
  refine MetFree.of_bodySF (plainFor_of_name pn_1) hisR ?_
  intro p e s m args below meth c s₁ Bd hml0 hP hK
  obtain ⟨rfl, hZ, hh⟩ := hP
  have hx := Bd.exec
  have hby := Bd.bytes
  have hml : c.maxLocals = 2 := hml0
  have hown : s.vm.findClass "java/util/BitSet" = some m.cls := findClass_of_methodNamed Bd.named
  have hnm := (name_of_methodNamed Bd.named Bd.method).1
  have X0 : Stand p l e ({ frames := 1, cells := 1, slots := 1, locals := 13 } : Room) s m #[(.ref b), (.int (64 : Int32))] below meth c s₁ [] 0 0 := Stand.of_body Bd
  have e0 : s₁.heap = h0 := by rw [← hh, Bd.state]; rfl
  have N0 := Fr.nil n0
  show own_G p e below s (Q_rmIW Z b h0 n0) ({ frames := 1, cells := 1, slots := 1, locals := 13 } : Room).cells ({ frames := 1, cells := 1, slots := 1, locals := 13 } : Room).slots (s₁.setTop (entryFrame m #[(.ref b), (.int (64 : Int32))] 2))
  rw [ef_rmIW m b (64 : Int32)]
  have K0 : Keep h0 h0 [b] := Keep.refl _ _
  show own_G p e below s _ _ _ (s₁.setTop (mkF m 0 #[.val (.ref b), .val (.int (64 : Int32))] []))
  refine own_go (fun _ kk_ => XS.aloadN X0.here hx rfl (hb hby d6_0) rfl rfl kk_) ?_
  show own_G p e below s _ _ _ (s₁.setTop (mkF m 1 #[.val (.ref b), .val (.int (64 : Int32))] [(.ref b)]))
  refine own_go (fun _ kk_ => XS.iloadN X0.here hx rfl (hb hby d6_1) rfl kk_) ?_
  show own_G p e below s _ _ _ (s₁.setTop (mkF m 2 #[.val (.ref b), .val (.int (64 : Int32))] [(.int (64 : Int32)), (.ref b)]))
  refine own_go (fun _ kk_ => XS.iconst X0.here hx rfl (hb hby d6_2) kk_) ?_
  show own_G p e below s _ _ _ (s₁.setTop (mkF m 3 #[.val (.ref b), .val (.int (64 : Int32))] [(.int (1 : Int32)), (.int (64 : Int32)), (.ref b)]))
  refine own_go (fun _ kk_ => XS.isub X0.here hx rfl (hb hby d6_3) rfl kk_) ?_
  show own_G p e below s _ _ _ (s₁.setTop (mkF m 4 #[.val (.ref b), .val (.int (64 : Int32))] [(.int (63 : Int32)), (.ref b)]))
  obtain ⟨_, _, ⟨T1, L1, k1, n1⟩, -, X1, ⟨Lc1, hQ1, l1, y1, z1⟩, st1⟩ := Jvm.LawKit.callS X0 hx (y := (⟨"java/util/BitSet", "wordIndex", "(I)I"⟩ : MethodName)) hown (mvT hZ (hw _ (List.mem_of_getElem? (i := 32) rfl))) (mvT hZ (hw _ (List.mem_of_getElem? (i := 33) rfl))) (mvT hZ (hw _ (List.mem_of_getElem? (i := 18) rfl))) (mvT hZ (hw _ (List.mem_of_getElem? (i := 34) rfl))) (by decide) (backOf (W := 1) (rmWI l Z a0 hw [] (63 : Int32) h0 n0 Z0) hZ (hw _ (List.mem_of_getElem? (i := 34) rfl)) (hw _ (List.mem_of_getElem? (i := 18) rfl)) (by decide) (by decide)) (g := (mkF m 4 #[.val (.ref b), .val (.int (64 : Int32))] [(.int (63 : Int32)), (.ref b)])) rfl (by rw [hml]; rfl) (argsL := [(.int (63 : Int32))]) (rest := [(.ref b)]) (lenOf pd_0 rfl) rfl (by show 2 * 0 + _ ≤ _; exact Nat.le_of_eq rfl) (hb hby d6_4) (fun _ _ => ⟨rfl, e0, (by decide : 0 + 0 ≤ _), (by decide : 0 + 0 ≤ _)⟩)
  dsimp only [Pt.U, Pt.locs, Pt.cells, Pt.slots] at X1 l1 y1 z1 st1 hQ1
  subst l1 y1 z1
  obtain ⟨rfl, N1q, e1⟩ := hQ1
  have N1 := Fr.app N0 N1q
  refine own_go st1 ?_
  show own_G p e below s _ _ _ (T1.setTop (mkF m 7 #[.val (.ref b), .val (.int (64 : Int32))] [(.int (0 : Int32)), (.ref b)]))
  refine own_go (fun _ kk_ => XS.iconst X1.here hx rfl (hb hby d6_7) kk_) ?_
  show own_G p e below s _ _ _ (T1.setTop (mkF m 8 #[.val (.ref b), .val (.int (64 : Int32))] [(.int (1 : Int32)), (.int (0 : Int32)), (.ref b)]))
  refine own_go (fun _ kk_ => XS.iadd X1.here hx rfl (hb hby d6_8) rfl kk_) ?_
  show own_G p e below s _ _ _ (T1.setTop (mkF m 9 #[.val (.ref b), .val (.int (64 : Int32))] [(.int (1 : Int32)), (.ref b)]))
  obtain ⟨T2, h2, k2, X2, e2, E2, A2, st2⟩ := newP X1 hx hZ (hw _ (List.mem_of_getElem? (i := 35) rfl)) e1 (g := (mkF m 9 #[.val (.ref b), .val (.int (64 : Int32))] [(.int (1 : Int32)), (.ref b)])) rfl (hb hby d6_9) rfl (by decide) (cap := 1) (by decide) (by decide) (by decide) (by decide)
  obtain ⟨b2, g2⟩ : ∃ z, z = h0.size := ⟨_, rfl⟩
  rw [← g2] at A2 st2
  refine own_go st2 ?_
  have K2_ := K0.ext E2
  have E2_b := E_b.ext E2
  have F2_b_words := F_w.ext E2
  have F2_b_wordsInUse := F_u.ext E2
  have F2_b_sizeIsSticky := F_s.ext E2
  have ne_b_b2 : b ≠ b2 := Nat.ne_of_lt (Nat.lt_of_lt_of_le E_b.lt (Nat.le_of_eq g2.symm))
  have g_b2 : n0 ≤ b2 := Nat.le_trans Z0 (Nat.le_of_eq g2.symm)
  have Z2 : n0 ≤ h2.size := Nat.le_trans Z0 E2.1
  have ko_b2 : h0.size ≤ b2 := Nat.le_trans K0.1 (Nat.le_of_eq g2.symm)
  have V2_b2 : Arv Z h2 b2 k2 .long (1 : Int32) [(.long (0 : Int64))] (.long (0 : Int64)) := (Arv.new A2 (by decide)).pad (pad_rep [] (.long (0 : Int64)) 1)
  show own_G p e below s _ _ _ (T2.setTop (mkF m 11 #[.val (.ref b), .val (.int (64 : Int32))] [(.ref b2), (.ref b)]))
  obtain ⟨T3, h3, X3, e3, W3, st3⟩ := putF X2 hx hZ hown (host := "") (Or.inl (hw _ (List.mem_of_getElem? (i := 36) rfl))) Via.refl e2 F2_b_words E2_b (Or.inl (hw _ (List.mem_of_getElem? (i := 37) rfl))) (hw _ (List.mem_of_getElem? (i := 17) rfl)) (ty := (.array .long)) (by decide) rfl rfl (g := (mkF m 11 #[.val (.ref b), .val (.int (64 : Int32))] [(.ref b2), (.ref b)])) rfl rfl (hb hby d6_11)
  refine own_go st3 ?_
  have K3_ := K2_.wr W3 (Or.inl (List.mem_of_getElem? (i := 0) rfl))
  have E3_b := E2_b.wr W3
  have F3_b_words := F2_b_words.same W3
  have F3_b_wordsInUse := F2_b_wordsInUse.other W3 (Or.inr (slot_ne (Or.inl (hw _ (List.mem_of_getElem? (i := 24) rfl))) (Or.inl (hw _ (List.mem_of_getElem? (i := 37) rfl))) (by decide) (t := .int) (t' := (.array .long)) (by decide) (by decide)))
  have F3_b_sizeIsSticky := F2_b_sizeIsSticky.other W3 (Or.inr (slot_ne (Or.inl (hw _ (List.mem_of_getElem? (i := 26) rfl))) (Or.inl (hw _ (List.mem_of_getElem? (i := 37) rfl))) (by decide) (t := .boolean) (t' := (.array .long)) (by decide) (by decide)))
  have V3_b2 := V2_b2.other W3 (Ne.symm ne_b_b2)
  have Z3 : n0 ≤ h3.size := by rw [W3.size]; exact Z2
  have N3 := Fr.snoc X3 N1 g_b
  show own_G p e below s _ _ _ (T3.setTop (mkF m 14 #[.val (.ref b), .val (.int (64 : Int32))] []))
  exact own_ret0 X3 hx Bd.returns (BodyLoose.notSynchronized Bd) (hb hby d6_14) e3 ⟨rfl, N3, Z3, K3_, F3_b_wordsInUse, F3_b_sizeIsSticky, _, _, ko_b2, F3_b_words, V3_b2⟩ (by decide) (by decide)
theorem d5_0 : decode jdk_92_method_4_code 0 = .ok (.aload_n 0, 1) := by decide +kernel
theorem d5_1 : decode jdk_92_method_4_code 1 = .ok (.invokespecial 21, 3) := by decide +kernel
theorem d5_4 : decode jdk_92_method_4_code 4 = .ok (.aload_n 0, 1) := by decide +kernel
theorem d5_5 : decode jdk_92_method_4_code 5 = .ok (.iconst 0, 1) := by decide +kernel
theorem d5_6 : decode jdk_92_method_4_code 6 = .ok (.putfield 7, 3) := by decide +kernel
theorem d5_9 : decode jdk_92_method_4_code 9 = .ok (.aload_n 0, 1) := by decide +kernel
theorem d5_10 : decode jdk_92_method_4_code 10 = .ok (.iconst 0, 1) := by decide +kernel
theorem d5_11 : decode jdk_92_method_4_code 11 = .ok (.putfield 24, 3) := by decide +kernel
theorem d5_14 : decode jdk_92_method_4_code 14 = .ok (.aload_n 0, 1) := by decide +kernel
theorem d5_15 : decode jdk_92_method_4_code 15 = .ok (.bipush 64, 2) := by decide +kernel
theorem d5_17 : decode jdk_92_method_4_code 17 = .ok (.invokevirtual 27, 3) := by decide +kernel
theorem d5_20 : decode jdk_92_method_4_code 20 = .ok (.aload_n 0, 1) := by decide +kernel
theorem d5_21 : decode jdk_92_method_4_code 21 = .ok (.iconst 0, 1) := by decide +kernel
theorem d5_22 : decode jdk_92_method_4_code 22 = .ok (.putfield 24, 3) := by decide +kernel
theorem d5_25 : decode jdk_92_method_4_code 25 = .ok (.return_, 1) := by decide +kernel
theorem pd_1 : parseMethodDescriptor "(I)V" = some ⟨[.int], none⟩ := by decide +kernel
theorem ef_rmBI (m : MethodId) (x0 : Addr) : entryFrame m #[(.ref x0)] 1 = mkF m 0 #[.val (.ref x0)] [] := by first | (simp [entryFrame, mkF, argsToLocals, Value.category]; done) | rfl
def Q_rmBI (Z : State) (b : Addr) (h0 : Heap) (n0 : Nat) : Option Value → Heap → List Loc → Prop := fun v h L => v = none ∧ Fr n0 L ∧ n0 ≤ h.size ∧ Keep h0 h [b] ∧ Exa Z h b "java/util/BitSet" ∧ ∃ (wd : Addr) (kw : ClassId), h0.size ≤ wd ∧ Fld Z h b "java/util/BitSet" "words" "[J" (.ref wd) ∧ Fld Z h b "java/util/BitSet" "wordsInUse" "I" (.int 0) ∧ Arv Z h wd kw .long 1 [.long (0 : Int64)] (.long (0 : Int64))
set_option maxRecDepth 65536 in
set_option maxHeartbeats 40000000 in
theorem rmBI (l : Launch) (Z : State) (a0 : Array Value) (hw : ∀ d ∈ tables_1, d.before a0 Z = true) (ws : List Jvm.Cond) (b : Addr) (h0 : Heap) (n0 : Nat) (Z0 : n0 ≤ h0.size) (E_b : Exa Z h0 b "java/util/BitSet") (g_b : n0 ≤ b) (F_u : Fld Z h0 b "java/util/BitSet" "wordsInUse" "I" (.int (0 : Int32))) (F_s : Fld Z h0 b "java/util/BitSet" "sizeIsSticky" "Z" (.int (0 : Int32))) (F_w : Fld Z h0 b "java/util/BitSet" "words" "[J" .null) :
    MetFree l (⟨"java/util/BitSet", "<init>", "()V"⟩ : MethodName) (head1 (Jvm.Cond.code (⟨"java/util/BitSet", "<init>", "()V"⟩ : MethodName) jdk_92_method_4_code 1 none :: ws) ({ frames := 2, cells := 1, slots := 1, locals := 26 } : Room)) (fun as_ U => as_ = #[(.ref b)] ∧ Z.Warmed39 U.vm ∧ U.heap = h0) (fun _ _ _ _ _ => True) (fun _ U o U' => ∃ v L, o = .returned v ∧ (Q_rmBI Z b h0 n0) v U'.heap L ∧ FrameEnd U o U' L ({ frames := 2, cells := 1, slots := 1, locals := 26 } : Room).cells ({ frames := 2, cells := 1, slots := 1, locals := 26 } : Room).slots) := by
  refine MetFree.of_bodySF (plainFor_of_name pn_1) hisR ?_
  intro p e s m args below meth c s₁ Bd hml0 hP hK
  obtain ⟨rfl, hZ, hh⟩ := hP
  have hx := Bd.exec
  have hby := Bd.bytes
  have hml : c.maxLocals = 1 := hml0
  have hown : s.vm.findClass "java/util/BitSet" = some m.cls := findClass_of_methodNamed Bd.named
  have hnm := (name_of_methodNamed Bd.named Bd.method).1
  have X0 : Stand p l e ({ frames := 2, cells := 1, slots := 1, locals := 26 } : Room) s m #[(.ref b)] below meth c s₁ [] 0 0 := Stand.of_body Bd
  have e0 : s₁.heap = h0 := by rw [← hh, Bd.state]; rfl
  have N0 := Fr.nil n0
  show own_G p e below s (Q_rmBI Z b h0 n0) ({ frames := 2, cells := 1, slots := 1, locals := 26 } : Room).cells ({ frames := 2, cells := 1, slots := 1, locals := 26 } : Room).slots (s₁.setTop (entryFrame m #[(.ref b)] 1))
  rw [ef_rmBI m b]
  have K0 : Keep h0 h0 [b] := Keep.refl _ _
  show own_G p e below s _ _ _ (s₁.setTop (mkF m 0 #[.val (.ref b)] []))
  refine own_go (fun _ kk_ => XS.aloadN X0.here hx rfl (hb hby d5_0) rfl rfl kk_) ?_
  show own_G p e below s _ _ _ (s₁.setTop (mkF m 1 #[.val (.ref b)] [(.ref b)]))
  obtain ⟨T1, X1, e1, st1⟩ := initO X0 hx hZ hown (hw _ (List.mem_of_getElem? (i := 22) rfl)) (hw _ (List.mem_of_getElem? (i := 14) rfl)) (hw _ (List.mem_of_getElem? (i := 15) rfl)) e0 (g := (mkF m 1 #[.val (.ref b)] [(.ref b)])) rfl (by rw [hml]; rfl) rfl (hb hby d5_1) (by decide) (W := 0) (by show 2 * 0 + _ ≤ _; exact Nat.le_of_eq rfl) (by decide)
  refine own_go st1 ?_
  show own_G p e below s _ _ _ (T1.setTop (mkF m 4 #[.val (.ref b)] []))
  refine own_go (fun _ kk_ => XS.aloadN X1.here hx rfl (hb hby d5_4) rfl rfl kk_) ?_
  show own_G p e below s _ _ _ (T1.setTop (mkF m 5 #[.val (.ref b)] [(.ref b)]))
  refine own_go (fun _ kk_ => XS.iconst X1.here hx rfl (hb hby d5_5) kk_) ?_
  show own_G p e below s _ _ _ (T1.setTop (mkF m 6 #[.val (.ref b)] [(.int (0 : Int32)), (.ref b)]))
  obtain ⟨T2, h2, X2, e2, W2, st2⟩ := putF X1 hx hZ hown (host := "") (Or.inl (hw _ (List.mem_of_getElem? (i := 23) rfl))) Via.refl e1 F_u E_b (Or.inl (hw _ (List.mem_of_getElem? (i := 24) rfl))) (hw _ (List.mem_of_getElem? (i := 17) rfl)) (ty := .int) (by decide) rfl rfl (g := (mkF m 6 #[.val (.ref b)] [(.int (0 : Int32)), (.ref b)])) rfl rfl (hb hby d5_6)
  refine own_go st2 ?_
  have K2_ := K0.wr W2 (Or.inl (List.mem_of_getElem? (i := 0) rfl))
  have E2_b := E_b.wr W2
  have F2_b_words := F_w.other W2 (Or.inr (slot_ne (Or.inl (hw _ (List.mem_of_getElem? (i := 37) rfl))) (Or.inl (hw _ (List.mem_of_getElem? (i := 24) rfl))) (by decide) (t := (.array .long)) (t' := .int) (by decide) (by decide)))
  have F2_b_wordsInUse := F_u.same W2
  have F2_b_sizeIsSticky := F_s.other W2 (Or.inr (slot_ne (Or.inl (hw _ (List.mem_of_getElem? (i := 26) rfl))) (Or.inl (hw _ (List.mem_of_getElem? (i := 24) rfl))) (by decide) (t := .boolean) (t' := .int) (by decide) (by decide)))
  have Z2 : n0 ≤ h2.size := by rw [W2.size]; exact Z0
  have N2 := Fr.snoc X2 N0 g_b
  show own_G p e below s _ _ _ (T2.setTop (mkF m 9 #[.val (.ref b)] []))
  refine own_go (fun _ kk_ => XS.aloadN X2.here hx rfl (hb hby d5_9) rfl rfl kk_) ?_
  show own_G p e below s _ _ _ (T2.setTop (mkF m 10 #[.val (.ref b)] [(.ref b)]))
  refine own_go (fun _ kk_ => XS.iconst X2.here hx rfl (hb hby d5_10) kk_) ?_
  show own_G p e below s _ _ _ (T2.setTop (mkF m 11 #[.val (.ref b)] [(.int (0 : Int32)), (.ref b)]))
  obtain ⟨T3, h3, X3, e3, W3, st3⟩ := putFN X2 hx hZ hown (hw _ (List.mem_of_getElem? (i := 25) rfl)) Via.refl e2 F2_b_sizeIsSticky E2_b (Or.inl (hw _ (List.mem_of_getElem? (i := 26) rfl))) (hw _ (List.mem_of_getElem? (i := 17) rfl)) (ty := .boolean) (v := (.int (0 : Int32))) (v' := (.int (nar .boolean (0 : Int32)))) (by decide) rfl (fits_nar_bool _) (g := (mkF m 11 #[.val (.ref b)] [(.int (0 : Int32)), (.ref b)])) rfl rfl (hb hby d5_11)
  refine own_go st3 ?_
  have K3_ := K2_.wr W3 (Or.inl (List.mem_of_getElem? (i := 0) rfl))
  have E3_b := E2_b.wr W3
  have F3_b_words := F2_b_words.other W3 (Or.inr (slot_ne (Or.inl (hw _ (List.mem_of_getElem? (i := 37) rfl))) (Or.inl (hw _ (List.mem_of_getElem? (i := 26) rfl))) (by decide) (t := (.array .long)) (t' := .boolean) (by decide) (by decide)))
  have F3_b_wordsInUse := F2_b_wordsInUse.other W3 (Or.inr (slot_ne (Or.inl (hw _ (List.mem_of_getElem? (i := 24) rfl))) (Or.inl (hw _ (List.mem_of_getElem? (i := 26) rfl))) (by decide) (t := .int) (t' := .boolean) (by decide) (by decide)))
  have F3_b_sizeIsSticky := F2_b_sizeIsSticky.same W3
  have Z3 : n0 ≤ h3.size := by rw [W3.size]; exact Z2
  have N3 := Fr.snoc X3 N2 g_b
  show own_G p e below s _ _ _ (T3.setTop (mkF m 14 #[.val (.ref b)] []))
  refine own_go (fun _ kk_ => XS.aloadN X3.here hx rfl (hb hby d5_14) rfl rfl kk_) ?_
  show own_G p e below s _ _ _ (T3.setTop (mkF m 15 #[.val (.ref b)] [(.ref b)]))
  refine own_go (fun _ kk_ => XS.bipush X3.here hx rfl (hb hby d5_15) kk_) ?_
  show own_G p e below s _ _ _ (T3.setTop (mkF m 17 #[.val (.ref b)] [(.int (64 : Int32)), (.ref b)]))
  obtain ⟨cq4, q4, q4'⟩ := E3_b.cell
  obtain ⟨_, _, ⟨T4, L4, k4, n4⟩, -, X4, ⟨Lc4, hQ4, l4, y4, z4⟩, st4⟩ := X3.privateBack hx (y := (⟨"java/util/BitSet", "initWords", "(I)V"⟩ : MethodName)) hown (mvT hZ (hw _ (List.mem_of_getElem? (i := 27) rfl))) (mvT hZ (hw _ (List.mem_of_getElem? (i := 28) rfl))) (mvT hZ (hw _ (List.mem_of_getElem? (i := 30) rfl))) (Cond.privateMethod_at (mvP hZ (hw _ (List.mem_of_getElem? (i := 29) rfl)) (args := #[]))) (mvT hZ (hw _ (List.mem_of_getElem? (i := 31) rfl))) (by decide) (backOf (W := 0) (rmIW l Z a0 hw [] b h3 n0 Z3 E3_b g_b F3_b_wordsInUse F3_b_sizeIsSticky F3_b_words) hZ (hw _ (List.mem_of_getElem? (i := 31) rfl)) (hw _ (List.mem_of_getElem? (i := 18) rfl)) (by decide) (by decide)) (g := (mkF m 17 #[.val (.ref b)] [(.int (64 : Int32)), (.ref b)])) rfl (by rw [hml]; rfl) (Steps.refl _) (a := b) (by rw [e3]; exact q4) q4' (argsL := [(.int (64 : Int32))]) (rest := []) (lenOf pd_1 rfl) rfl (by show 2 * 0 + _ ≤ _; exact Nat.le_of_eq rfl) (hb hby d5_17) (fun _ _ => ⟨rfl, e3, (by decide : 0 + 1 ≤ _), (by decide : 0 + 1 ≤ _)⟩)
  dsimp only [Pt.U, Pt.locs, Pt.cells, Pt.slots] at X4 l4 y4 z4 st4 hQ4
  subst l4 y4 z4
  generalize e4 : T4.heap = h4 at hQ4
  obtain ⟨rfl, N4q, Z4, K4q, Fu4, Fs4, wd, kwd, ko_wd, Fw4, V4⟩ := hQ4
  have N4 := Fr.app N3 N4q
  refine own_go (fun _ kk_ => st4.trans kk_) ?_
  have K4 : Keep h0 h4 [b] := K3_.trans K4q (allS (Or.inl (List.mem_of_getElem? (i := 0) rfl)) all0)
  have E4 := E3_b.keep K4q
  have kow : h0.size ≤ wd := Nat.le_trans K3_.1 ko_wd
  have neb : b ≠ wd := Nat.ne_of_lt (Nat.lt_of_lt_of_le E3_b.lt ko_wd)
  show own_G p e below s _ _ _ (T4.setTop (mkF m 20 #[.val (.ref b)] []))
  refine own_go (fun _ kk_ => XS.aloadN X4.here hx rfl (hb hby d5_20) rfl rfl kk_) ?_
  show own_G p e below s _ _ _ (T4.setTop (mkF m 21 #[.val (.ref b)] [(.ref b)]))
  refine own_go (fun _ kk_ => XS.iconst X4.here hx rfl (hb hby d5_21) kk_) ?_
  show own_G p e below s _ _ _ (T4.setTop (mkF m 22 #[.val (.ref b)] [(.int (0 : Int32)), (.ref b)]))
  obtain ⟨T5, h5, X5, e5, W5, st5⟩ := putFN X4 hx hZ hown (hw _ (List.mem_of_getElem? (i := 25) rfl)) Via.refl e4 Fs4 E4 (Or.inl (hw _ (List.mem_of_getElem? (i := 26) rfl))) (hw _ (List.mem_of_getElem? (i := 17) rfl)) (ty := .boolean) (v := (.int (0 : Int32))) (v' := (.int (nar .boolean (0 : Int32)))) (by decide) rfl (fits_nar_bool _) (g := (mkF m 22 #[.val (.ref b)] [(.int (0 : Int32)), (.ref b)])) rfl rfl (hb hby d5_22)
  refine own_go st5 ?_
  have K5_ := K4.wr W5 (Or.inl (List.mem_of_getElem? (i := 0) rfl))
  have E5_b := E4.wr W5
  have F5_b_words := Fw4.other W5 (Or.inr (slot_ne (Or.inl (hw _ (List.mem_of_getElem? (i := 37) rfl))) (Or.inl (hw _ (List.mem_of_getElem? (i := 26) rfl))) (by decide) (t := (.array .long)) (t' := .boolean) (by decide) (by decide)))
  have F5_b_wordsInUse := Fu4.other W5 (Or.inr (slot_ne (Or.inl (hw _ (List.mem_of_getElem? (i := 24) rfl))) (Or.inl (hw _ (List.mem_of_getElem? (i := 26) rfl))) (by decide) (t := .int) (t' := .boolean) (by decide) (by decide)))
  have F5_b_sizeIsSticky := Fs4.same W5
  have V5_wd := V4.other W5 (Ne.symm neb)
  have Z5 : n0 ≤ h5.size := by rw [W5.size]; exact Z4
  have N5 := Fr.snoc X5 N4 g_b
  show own_G p e below s _ _ _ (T5.setTop (mkF m 25 #[.val (.ref b)] []))
  exact own_ret0 X5 hx Bd.returns (BodyLoose.notSynchronized Bd) (hb hby d5_25) e5 ⟨rfl, N5, Z5, K5_, E5_b, wd, kwd, kow, F5_b_words, F5_b_wordsInUse, V5_wd⟩ (by decide) (by decide)
theorem d10_0 : decode jdk_92_method_14_code 0 = .ok (.aload_n 0, 1) := by decide +kernel
theorem d10_1 : decode jdk_92_method_14_code 1 = .ok (.getfield 11, 3) := by decide +kernel
theorem d10_4 : decode jdk_92_method_14_code 4 = .ok (.arraylength, 1) := by decide +kernel
theorem d10_5 : decode jdk_92_method_14_code 5 = .ok (.iload_n 1, 1) := by decide +kernel
theorem d10_6 : decode jdk_92_method_14_code 6 = .ok (.if_icmp .ge 32, 3) := by decide +kernel
theorem d10_38 : decode jdk_92_method_14_code 38 = .ok (.return_, 1) := by decide +kernel
theorem ef_rmEC (m : MethodId) (x0 : Addr) (x1 : Int32) : entryFrame m #[(.ref x0), (.int x1)] 3 = mkF m 0 #[.val (.ref x0), .val (.int x1), .unset] [] := by first | (simp [entryFrame, mkF, argsToLocals, Value.category]; done) | rfl
def Q_rmEC (Z : State) (b wd : Addr) (kw : ClassId) (h0 : Heap) (n0 : Nat) : Option Value → Heap → List Loc → Prop := fun v h L => v = none ∧ Fr n0 L ∧ h = h0
set_option maxRecDepth 65536 in
set_option maxHeartbeats 40000000 in
theorem rmEC (l : Launch) (Z : State) (a0 : Array Value) (hw : ∀ d ∈ tables_1, d.before a0 Z = true) (ws : List Jvm.Cond) (b wd : Addr) (kw : ClassId) (h0 : Heap) (n0 : Nat) (Z0 : n0 ≤ h0.size) (F_w : Fld Z h0 b "java/util/BitSet" "words" "[J" (.ref wd)) (V_w : Arv Z h0 wd kw .long 1 [.long (0 : Int64)] (.long (0 : Int64))) :
    MetFree l (⟨"java/util/BitSet", "ensureCapacity", "(I)V"⟩ : MethodName) (head1 (Jvm.Cond.code (⟨"java/util/BitSet", "ensureCapacity", "(I)V"⟩ : MethodName) jdk_92_method_14_code 3 none :: ws) ({ frames := 0, cells := 0, slots := 0, locals := 0 } : Room)) (fun as_ U => as_ = #[(.ref b), (.int (1 : Int32))] ∧ Z.Warmed39 U.vm ∧ U.heap = h0) (fun _ _ _ _ _ => True) (fun _ U o U' => ∃ v L, o = .returned v ∧ (Q_rmEC Z b wd kw h0 n0) v U'.heap L ∧ FrameEnd U o U' L ({ frames := 0, cells := 0, slots := 0, locals := 0 } : Room).cells ({ frames := 0, cells := 0, slots := 0, locals := 0 } : Room).slots) := by
  refine MetFree.of_bodySF (plainFor_of_name pn_1) hisR ?_
  intro p e s m args below meth c s₁ Bd hml0 hP hK
  obtain ⟨rfl, hZ, hh⟩ := hP
  have hx := Bd.exec
  have hby := Bd.bytes
  have hml : c.maxLocals = 3 := hml0
  have hown : s.vm.findClass "java/util/BitSet" = some m.cls := findClass_of_methodNamed Bd.named
  have hnm := (name_of_methodNamed Bd.named Bd.method).1
  have X0 : Stand p l e ({ frames := 0, cells := 0, slots := 0, locals := 0 } : Room) s m #[(.ref b), (.int (1 : Int32))] below meth c s₁ [] 0 0 := Stand.of_body Bd
  have e0 : s₁.heap = h0 := by rw [← hh, Bd.state]; rfl
  have N0 := Fr.nil n0
  show own_G p e below s (Q_rmEC Z b wd kw h0 n0) ({ frames := 0, cells := 0, slots := 0, locals := 0 } : Room).cells ({ frames := 0, cells := 0, slots := 0, locals := 0 } : Room).slots (s₁.setTop (entryFrame m #[(.ref b), (.int (1 : Int32))] 3))
  rw [ef_rmEC m b (1 : Int32)]
  show own_G p e below s _ _ _ (s₁.setTop (mkF m 0 #[.val (.ref b), .val (.int (1 : Int32)), .unset] []))
  refine own_go (fun _ kk_ => XS.aloadN X0.here hx rfl (hb hby d10_0) rfl rfl kk_) ?_
  show own_G p e below s _ _ _ (s₁.setTop (mkF m 1 #[.val (.ref b), .val (.int (1 : Int32)), .unset] [(.ref b)]))
  obtain ⟨T1, X1, e1, st1⟩ := getF X0 hx hZ hown (host := "") (Or.inl (hw _ (List.mem_of_getElem? (i := 36) rfl))) Via.refl e0 F_w (g := (mkF m 1 #[.val (.ref b), .val (.int (1 : Int32)), .unset] [(.ref b)])) rfl rfl (hb hby d10_1)
  refine own_go st1 ?_
  show own_G p e below s _ _ _ (T1.setTop (mkF m 4 #[.val (.ref b), .val (.int (1 : Int32)), .unset] [(.ref wd)]))
  have Vc2 := V_w
  obtain ⟨cl2, Ar2, q2, S2, M2, H2, G2⟩ := Vc2
  refine own_go (X1.arraylength hx (cell := cl2) (by rw [e1]; exact Ar2.1) (State.isArrayOf_alike hZ.alike Ar2.2.1) (g := (mkF m 4 #[.val (.ref b), .val (.int (1 : Int32)), .unset] [(.ref wd)])) rfl (rest := []) rfl (hb hby d10_4)) ?_
  rw [len_of S2 M2]
  show own_G p e below s _ _ _ (T1.setTop (mkF m 5 #[.val (.ref b), .val (.int (1 : Int32)), .unset] [(.int (1 : Int32))]))
  refine own_go (fun _ kk_ => XS.iloadN X1.here hx rfl (hb hby d10_5) rfl kk_) ?_
  show own_G p e below s _ _ _ (T1.setTop (mkF m 6 #[.val (.ref b), .val (.int (1 : Int32)), .unset] [(.int (1 : Int32)), (.int (1 : Int32))]))
  refine own_ic_geY X1 hx (pc := 6) (pc' := 38) (hb hby d10_6) (by decide) (by decide) (by decide) ?_
  show own_G p e below s _ _ _ (T1.setTop (mkF m 38 #[.val (.ref b), .val (.int (1 : Int32)), .unset] []))
  exact own_ret0 X1 hx Bd.returns (BodyLoose.notSynchronized Bd) (hb hby d10_38) e1 ⟨rfl, N0, rfl⟩ (by decide) (by decide)
theorem d9_0 : decode jdk_92_method_15_code 0 = .ok (.iload_n 1, 1) := by decide +kernel
theorem d9_1 : decode jdk_92_method_15_code 1 = .ok (.iconst 1, 1) := by decide +kernel
theorem d9_2 : decode jdk_92_method_15_code 2 = .ok (.iadd, 1) := by decide +kernel
theorem d9_3 : decode jdk_92_method_15_code 3 = .ok (.istore_n 2, 1) := by decide +kernel
theorem d9_4 : decode jdk_92_method_15_code 4 = .ok (.aload_n 0, 1) := by decide +kernel
theorem d9_5 : decode jdk_92_method_15_code 5 = .ok (.getfield 7, 3) := by decide +kernel
theorem d9_8 : decode jdk_92_method_15_code 8 = .ok (.iload_n 2, 1) := by decide +kernel
theorem d9_9 : decode jdk_92_method_15_code 9 = .ok (.if_icmp .ge 13, 3) := by decide +kernel
theorem d9_12 : decode jdk_92_method_15_code 12 = .ok (.aload_n 0, 1) := by decide +kernel
theorem d9_13 : decode jdk_92_method_15_code 13 = .ok (.iload_n 2, 1) := by decide +kernel
theorem d9_14 : decode jdk_92_method_15_code 14 = .ok (.invokevirtual 139, 3) := by decide +kernel
theorem d9_17 : decode jdk_92_method_15_code 17 = .ok (.aload_n 0, 1) := by decide +kernel
theorem d9_18 : decode jdk_92_method_15_code 18 = .ok (.iload_n 2, 1) := by decide +kernel
theorem d9_19 : decode jdk_92_method_15_code 19 = .ok (.putfield 7, 3) := by decide +kernel
theorem d9_22 : decode jdk_92_method_15_code 22 = .ok (.return_, 1) := by decide +kernel
theorem ef_rmET (m : MethodId) (x0 : Addr) (x1 : Int32) : entryFrame m #[(.ref x0), (.int x1)] 3 = mkF m 0 #[.val (.ref x0), .val (.int x1), .unset] [] := by first | (simp [entryFrame, mkF, argsToLocals, Value.category]; done) | rfl
def Q_rmET (Z : State) (b wd : Addr) (kw : ClassId) (h0 : Heap) (n0 : Nat) : Option Value → Heap → List Loc → Prop := fun v h L => v = none ∧ Fr n0 L ∧ n0 ≤ h.size ∧ Keep h0 h [b] ∧ Exa Z h b "java/util/BitSet" ∧ Fld Z h b "java/util/BitSet" "words" "[J" (.ref wd)
set_option maxRecDepth 65536 in
set_option maxHeartbeats 40000000 in
theorem rmET (l : Launch) (Z : State) (a0 : Array Value) (hw : ∀ d ∈ tables_1, d.before a0 Z = true) (ws : List Jvm.Cond) (b wd : Addr) (kw : ClassId) (h0 : Heap) (n0 : Nat) (Z0 : n0 ≤ h0.size) (E_b : Exa Z h0 b "java/util/BitSet") (g_b : n0 ≤ b) (F_u : Fld Z h0 b "java/util/BitSet" "wordsInUse" "I" (.int 0)) (F_w : Fld Z h0 b "java/util/BitSet" "words" "[J" (.ref wd)) (V_w : Arv Z h0 wd kw .long 1 [.long (0 : Int64)] (.long (0 : Int64))) (neb : b ≠ wd) :
    MetFree l (⟨"java/util/BitSet", "expandTo", "(I)V"⟩ : MethodName) (head1 (Jvm.Cond.code (⟨"java/util/BitSet", "expandTo", "(I)V"⟩ : MethodName) jdk_92_method_15_code 3 none :: ws) ({ frames := 1, cells := 0, slots := 0, locals := 14 } : Room)) (fun as_ U => as_ = #[(.ref b), (.int (0 : Int32))] ∧ Z.Warmed39 U.vm ∧ U.heap = h0) (fun _ _ _ _ _ => True) (fun _ U o U' => ∃ v L, o = .returned v ∧ (Q_rmET Z b wd kw h0 n0) v U'.heap L ∧ FrameEnd U o U' L ({ frames := 1, cells := 0, slots := 0, locals := 14 } : Room).cells ({ frames := 1, cells := 0, slots := 0, locals := 14 } : Room).slots) := by
  refine MetFree.of_bodySF (plainFor_of_name pn_1) hisR ?_
  intro p e s m args below meth c s₁ Bd hml0 hP hK
  obtain ⟨rfl, hZ, hh⟩ := hP
  have hx := Bd.exec
  have hby := Bd.bytes
  have hml : c.maxLocals = 3 := hml0
  have hown : s.vm.findClass "java/util/BitSet" = some m.cls := findClass_of_methodNamed Bd.named
  have hnm := (name_of_methodNamed Bd.named Bd.method).1
  have X0 : Stand p l e ({ frames := 1, cells := 0, slots := 0, locals := 14 } : Room) s m #[(.ref b), (.int (0 : Int32))] below meth c s₁ [] 0 0 := Stand.of_body Bd
  have e0 : s₁.heap = h0 := by rw [← hh, Bd.state]; rfl
  have N0 := Fr.nil n0
  show own_G p e below s (Q_rmET Z b wd kw h0 n0) ({ frames := 1, cells := 0, slots := 0, locals := 14 } : Room).cells ({ frames := 1, cells := 0, slots := 0, locals := 14 } : Room).slots (s₁.setTop (entryFrame m #[(.ref b), (.int (0 : Int32))] 3))
  rw [ef_rmET m b (0 : Int32)]
  have K0 : Keep h0 h0 [b] := Keep.refl _ _
  show own_G p e below s _ _ _ (s₁.setTop (mkF m 0 #[.val (.ref b), .val (.int (0 : Int32)), .unset] []))
  refine own_go (fun _ kk_ => XS.iloadN X0.here hx rfl (hb hby d9_0) rfl kk_) ?_
  show own_G p e below s _ _ _ (s₁.setTop (mkF m 1 #[.val (.ref b), .val (.int (0 : Int32)), .unset] [(.int (0 : Int32))]))
  refine own_go (fun _ kk_ => XS.iconst X0.here hx rfl (hb hby d9_1) kk_) ?_
  show own_G p e below s _ _ _ (s₁.setTop (mkF m 2 #[.val (.ref b), .val (.int (0 : Int32)), .unset] [(.int (1 : Int32)), (.int (0 : Int32))]))
  refine own_go (fun _ kk_ => XS.iadd X0.here hx rfl (hb hby d9_2) rfl kk_) ?_
  show own_G p e below s _ _ _ (s₁.setTop (mkF m 3 #[.val (.ref b), .val (.int (0 : Int32)), .unset] [(.int (1 : Int32))]))
  refine own_go (fun _ kk_ => XS.istoreN X0.here hx rfl (hb hby d9_3) rfl (l' := #[.val (.ref b), .val (.int (0 : Int32)), .val (.int (1 : Int32))]) rfl kk_) ?_
  show own_G p e below s _ _ _ (s₁.setTop (mkF m 4 #[.val (.ref b), .val (.int (0 : Int32)), .val (.int (1 : Int32))] []))
  refine own_go (fun _ kk_ => XS.aloadN X0.here hx rfl (hb hby d9_4) rfl rfl kk_) ?_
  show own_G p e below s _ _ _ (s₁.setTop (mkF m 5 #[.val (.ref b), .val (.int (0 : Int32)), .val (.int (1 : Int32))] [(.ref b)]))
  obtain ⟨T1, X1, e1, st1⟩ := getF X0 hx hZ hown (host := "") (Or.inl (hw _ (List.mem_of_getElem? (i := 23) rfl))) Via.refl e0 F_u (g := (mkF m 5 #[.val (.ref b), .val (.int (0 : Int32)), .val (.int (1 : Int32))] [(.ref b)])) rfl rfl (hb hby d9_5)
  refine own_go st1 ?_
  show own_G p e below s _ _ _ (T1.setTop (mkF m 8 #[.val (.ref b), .val (.int (0 : Int32)), .val (.int (1 : Int32))] [(.int (0 : Int32))]))
  refine own_go (fun _ kk_ => XS.iloadN X1.here hx rfl (hb hby d9_8) rfl kk_) ?_
  show own_G p e below s _ _ _ (T1.setTop (mkF m 9 #[.val (.ref b), .val (.int (0 : Int32)), .val (.int (1 : Int32))] [(.int (1 : Int32)), (.int (0 : Int32))]))
  refine own_ic_geN X1 hx (pc := 9) (hb hby d9_9) (by decide) ?_
  show own_G p e below s _ _ _ (T1.setTop (mkF m 12 #[.val (.ref b), .val (.int (0 : Int32)), .val (.int (1 : Int32))] []))
  refine own_go (fun _ kk_ => XS.aloadN X1.here hx rfl (hb hby d9_12) rfl rfl kk_) ?_
  show own_G p e below s _ _ _ (T1.setTop (mkF m 13 #[.val (.ref b), .val (.int (0 : Int32)), .val (.int (1 : Int32))] [(.ref b)]))
  refine own_go (fun _ kk_ => XS.iloadN X1.here hx rfl (hb hby d9_13) rfl kk_) ?_
  show own_G p e below s _ _ _ (T1.setTop (mkF m 14 #[.val (.ref b), .val (.int (0 : Int32)), .val (.int (1 : Int32))] [(.int (1 : Int32)), (.ref b)]))
  obtain ⟨cq2, q2, q2'⟩ := E_b.cell
  obtain ⟨_, _, ⟨T2, L2, k2, n2⟩, -, X2, ⟨Lc2, hQ2, l2, y2, z2⟩, st2⟩ := X1.privateBack hx (y := (⟨"java/util/BitSet", "ensureCapacity", "(I)V"⟩ : MethodName)) hown (mvT hZ (hw _ (List.mem_of_getElem? (i := 58) rfl))) (mvT hZ (hw _ (List.mem_of_getElem? (i := 59) rfl))) (mvT hZ (hw _ (List.mem_of_getElem? (i := 61) rfl))) (Cond.privateMethod_at (mvP hZ (hw _ (List.mem_of_getElem? (i := 60) rfl)) (args := #[]))) (mvT hZ (hw _ (List.mem_of_getElem? (i := 62) rfl))) (by decide) (backOf (W := 0) (rmEC l Z a0 hw [] b wd kw h0 n0 Z0 F_w V_w) hZ (hw _ (List.mem_of_getElem? (i := 62) rfl)) (hw _ (List.mem_of_getElem? (i := 18) rfl)) (by decide) (by decide)) (g := (mkF m 14 #[.val (.ref b), .val (.int (0 : Int32)), .val (.int (1 : Int32))] [(.int (1 : Int32)), (.ref b)])) rfl (by rw [hml]; rfl) (Steps.refl _) (a := b) (by rw [e1]; exact q2) q2' (argsL := [(.int (1 : Int32))]) (rest := []) (lenOf pd_1 rfl) rfl (by show 2 * 0 + _ ≤ _; exact Nat.le_of_eq rfl) (hb hby d9_14) (fun _ _ => ⟨rfl, e1, (by decide : 0 + 0 ≤ _), (by decide : 0 + 0 ≤ _)⟩)
  dsimp only [Pt.U, Pt.locs, Pt.cells, Pt.slots] at X2 l2 y2 z2 st2 hQ2
  subst l2 y2 z2
  obtain ⟨rfl, N2q, e2⟩ := hQ2
  have N2 := Fr.app N0 N2q
  refine own_go (fun _ kk_ => st2.trans kk_) ?_
  show own_G p e below s _ _ _ (T2.setTop (mkF m 17 #[.val (.ref b), .val (.int (0 : Int32)), .val (.int (1 : Int32))] []))
  refine own_go (fun _ kk_ => XS.aloadN X2.here hx rfl (hb hby d9_17) rfl rfl kk_) ?_
  show own_G p e below s _ _ _ (T2.setTop (mkF m 18 #[.val (.ref b), .val (.int (0 : Int32)), .val (.int (1 : Int32))] [(.ref b)]))
  refine own_go (fun _ kk_ => XS.iloadN X2.here hx rfl (hb hby d9_18) rfl kk_) ?_
  show own_G p e below s _ _ _ (T2.setTop (mkF m 19 #[.val (.ref b), .val (.int (0 : Int32)), .val (.int (1 : Int32))] [(.int (1 : Int32)), (.ref b)]))
  obtain ⟨T3, h3, X3, e3, W3, st3⟩ := putF X2 hx hZ hown (host := "") (Or.inl (hw _ (List.mem_of_getElem? (i := 23) rfl))) Via.refl e2 F_u E_b (Or.inl (hw _ (List.mem_of_getElem? (i := 24) rfl))) (hw _ (List.mem_of_getElem? (i := 17) rfl)) (ty := .int) (by decide) rfl rfl (g := (mkF m 19 #[.val (.ref b), .val (.int (0 : Int32)), .val (.int (1 : Int32))] [(.int (1 : Int32)), (.ref b)])) rfl rfl (hb hby d9_19)
  refine own_go st3 ?_
  have K3_ := K0.wr W3 (Or.inl (List.mem_of_getElem? (i := 0) rfl))
  have E3_b := E_b.wr W3
  have F3_b_words := F_w.other W3 (Or.inr (slot_ne (Or.inl (hw _ (List.mem_of_getElem? (i := 37) rfl))) (Or.inl (hw _ (List.mem_of_getElem? (i := 24) rfl))) (by decide) (t := (.array .long)) (t' := .int) (by decide) (by decide)))
  have F3_b_wordsInUse := F_u.same W3
  have Z3 : n0 ≤ h3.size := by rw [W3.size]; exact Z0
  have N3 := Fr.snoc X3 N2 g_b
  show own_G p e below s _ _ _ (T3.setTop (mkF m 22 #[.val (.ref b), .val (.int (0 : Int32)), .val (.int (1 : Int32))] []))
  exact own_ret0 X3 hx Bd.returns (BodyLoose.notSynchronized Bd) (hb hby d9_22) e3 ⟨rfl, N3, Z3, K3_, E3_b, F3_b_words⟩ (by decide) (by decide)
theorem d11_0 : decode jdk_92_method_2_code 0 = .ok (.getstatic 3, 3) := by decide +kernel
theorem d11_3 : decode jdk_92_method_2_code 3 = .ok (.ifCond .ne 34, 3) := by decide +kernel
theorem d11_37 : decode jdk_92_method_2_code 37 = .ok (.getstatic 3, 3) := by decide +kernel
theorem d11_40 : decode jdk_92_method_2_code 40 = .ok (.ifCond .ne 30, 3) := by decide +kernel
theorem d11_70 : decode jdk_92_method_2_code 70 = .ok (.getstatic 3, 3) := by decide +kernel
theorem d11_73 : decode jdk_92_method_2_code 73 = .ok (.ifCond .ne 37, 3) := by decide +kernel
theorem d11_110 : decode jdk_92_method_2_code 110 = .ok (.return_, 1) := by decide +kernel
theorem ef_rmCI (m : MethodId) (x0 : Addr) : entryFrame m #[(.ref x0)] 1 = mkF m 0 #[.val (.ref x0)] [] := by first | (simp [entryFrame, mkF, argsToLocals, Value.category]; done) | rfl
def Q_rmCI (Z : State) (b : Addr) (h0 : Heap) (n0 : Nat) : Option Value → Heap → List Loc → Prop := fun v h L => v = none ∧ Fr n0 L ∧ h = h0
set_option maxRecDepth 65536 in
set_option maxHeartbeats 40000000 in
theorem rmCI (l : Launch) (Z : State) (a0 : Array Value) (hw : ∀ d ∈ tables_1, d.before a0 Z = true) (ws : List Jvm.Cond) (b : Addr) (h0 : Heap) (n0 : Nat) (Z0 : n0 ≤ h0.size) (S_a : Sta Z h0 "java/util/BitSet" "$assertionsDisabled" "Z" (.int 1)) :
    MetFree l (⟨"java/util/BitSet", "checkInvariants", "()V"⟩ : MethodName) (head1 (Jvm.Cond.code (⟨"java/util/BitSet", "checkInvariants", "()V"⟩ : MethodName) jdk_92_method_2_code 1 none :: ws) ({ frames := 0, cells := 0, slots := 0, locals := 0 } : Room)) (fun as_ U => as_ = #[(.ref b)] ∧ Z.Warmed39 U.vm ∧ U.heap = h0) (fun _ _ _ _ _ => True) (fun _ U o U' => ∃ v L, o = .returned v ∧ (Q_rmCI Z b h0 n0) v U'.heap L ∧ FrameEnd U o U' L ({ frames := 0, cells := 0, slots := 0, locals := 0 } : Room).cells ({ frames := 0, cells := 0, slots := 0, locals := 0 } : Room).slots) := by
  refine MetFree.of_bodySF (plainFor_of_name pn_1) hisR ?_
  intro p e s m args below meth c s₁ Bd hml0 hP hK
  obtain ⟨rfl, hZ, hh⟩ := hP
  have hx := Bd.exec
  have hby := Bd.bytes
  have hml : c.maxLocals = 1 := hml0
  have hown : s.vm.findClass "java/util/BitSet" = some m.cls := findClass_of_methodNamed Bd.named
  have hnm := (name_of_methodNamed Bd.named Bd.method).1
  have X0 : Stand p l e ({ frames := 0, cells := 0, slots := 0, locals := 0 } : Room) s m #[(.ref b)] below meth c s₁ [] 0 0 := Stand.of_body Bd
  have e0 : s₁.heap = h0 := by rw [← hh, Bd.state]; rfl
  have N0 := Fr.nil n0
  show own_G p e below s (Q_rmCI Z b h0 n0) ({ frames := 0, cells := 0, slots := 0, locals := 0 } : Room).cells ({ frames := 0, cells := 0, slots := 0, locals := 0 } : Room).slots (s₁.setTop (entryFrame m #[(.ref b)] 1))
  rw [ef_rmCI m b]
  show own_G p e below s _ _ _ (s₁.setTop (mkF m 0 #[.val (.ref b)] []))
  obtain ⟨T1, X1, e1, st1⟩ := getS2 X0 hx hZ hown (host := "") (Or.inl (hw _ (List.mem_of_getElem? (i := 68) rfl))) Via.refl e0 S_a (g := (mkF m 0 #[.val (.ref b)] [])) rfl (hb hby d11_0)
  refine own_go st1 ?_
  show own_G p e below s _ _ _ (T1.setTop (mkF m 3 #[.val (.ref b)] [(.int (1 : Int32))]))
  refine own_if_neY X1 hx (pc := 3) (pc' := 37) (hb hby d11_3) (by decide) (by decide) (by decide) ?_
  show own_G p e below s _ _ _ (T1.setTop (mkF m 37 #[.val (.ref b)] []))
  obtain ⟨T2, X2, e2, st2⟩ := getS2 X1 hx hZ hown (host := "") (Or.inl (hw _ (List.mem_of_getElem? (i := 68) rfl))) Via.refl e1 S_a (g := (mkF m 37 #[.val (.ref b)] [])) rfl (hb hby d11_37)
  refine own_go st2 ?_
  show own_G p e below s _ _ _ (T2.setTop (mkF m 40 #[.val (.ref b)] [(.int (1 : Int32))]))
  refine own_if_neY X2 hx (pc := 40) (pc' := 70) (hb hby d11_40) (by decide) (by decide) (by decide) ?_
  show own_G p e below s _ _ _ (T2.setTop (mkF m 70 #[.val (.ref b)] []))
  obtain ⟨T3, X3, e3, st3⟩ := getS2 X2 hx hZ hown (host := "") (Or.inl (hw _ (List.mem_of_getElem? (i := 68) rfl))) Via.refl e2 S_a (g := (mkF m 70 #[.val (.ref b)] [])) rfl (hb hby d11_70)
  refine own_go st3 ?_
  show own_G p e below s _ _ _ (T3.setTop (mkF m 73 #[.val (.ref b)] [(.int (1 : Int32))]))
  refine own_if_neY X3 hx (pc := 73) (pc' := 110) (hb hby d11_73) (by decide) (by decide) (by decide) ?_
  show own_G p e below s _ _ _ (T3.setTop (mkF m 110 #[.val (.ref b)] []))
  exact own_ret0 X3 hx Bd.returns (BodyLoose.notSynchronized Bd) (hb hby d11_110) e3 ⟨rfl, N0, rfl⟩ (by decide) (by decide)
theorem own_wi : ∀ k, k < 16 → Int32.ofNat k >>> ((6 : Int32) &&& 31) = 0 ∧ ¬ Int32.ofNat k < 0 := by decide +kernel
theorem d8_0 : decode jdk_92_method_19_code 0 = .ok (.iload_n 1, 1) := by decide +kernel
theorem d8_1 : decode jdk_92_method_19_code 1 = .ok (.ifCond .ge 30, 3) := by decide +kernel
theorem d8_31 : decode jdk_92_method_19_code 31 = .ok (.iload_n 1, 1) := by decide +kernel
theorem d8_32 : decode jdk_92_method_19_code 32 = .ok (.invokestatic 52, 3) := by decide +kernel
theorem d8_35 : decode jdk_92_method_19_code 35 = .ok (.istore_n 2, 1) := by decide +kernel
theorem d8_36 : decode jdk_92_method_19_code 36 = .ok (.aload_n 0, 1) := by decide +kernel
theorem d8_37 : decode jdk_92_method_19_code 37 = .ok (.iload_n 2, 1) := by decide +kernel
theorem d8_38 : decode jdk_92_method_19_code 38 = .ok (.invokevirtual 155, 3) := by decide +kernel
theorem d8_41 : decode jdk_92_method_19_code 41 = .ok (.aload_n 0, 1) := by decide +kernel
theorem d8_42 : decode jdk_92_method_19_code 42 = .ok (.getfield 11, 3) := by decide +kernel
theorem d8_45 : decode jdk_92_method_19_code 45 = .ok (.iload_n 2, 1) := by decide +kernel
theorem d8_46 : decode jdk_92_method_19_code 46 = .ok (.dup2, 1) := by decide +kernel
theorem d8_47 : decode jdk_92_method_19_code 47 = .ok (.laload, 1) := by decide +kernel
theorem d8_48 : decode jdk_92_method_19_code 48 = .ok (.lconst 1, 1) := by decide +kernel
theorem d8_49 : decode jdk_92_method_19_code 49 = .ok (.iload_n 1, 1) := by decide +kernel
theorem d8_50 : decode jdk_92_method_19_code 50 = .ok (.lshl, 1) := by decide +kernel
theorem d8_51 : decode jdk_92_method_19_code 51 = .ok (.lor, 1) := by decide +kernel
theorem d8_52 : decode jdk_92_method_19_code 52 = .ok (.lastore, 1) := by decide +kernel
theorem d8_53 : decode jdk_92_method_19_code 53 = .ok (.aload_n 0, 1) := by decide +kernel
theorem d8_54 : decode jdk_92_method_19_code 54 = .ok (.invokevirtual 56, 3) := by decide +kernel
theorem d8_57 : decode jdk_92_method_19_code 57 = .ok (.return_, 1) := by decide +kernel
theorem pd_2 : parseMethodDescriptor "()V" = some ⟨[], none⟩ := by decide +kernel
theorem ef_rmSet (m : MethodId) (x0 : Addr) (x1 : Int32) : entryFrame m #[(.ref x0), (.int x1)] 3 = mkF m 0 #[.val (.ref x0), .val (.int x1), .unset] [] := by first | (simp [entryFrame, mkF, argsToLocals, Value.category]; done) | rfl
def Q_rmSet (Z : State) (b wd : Addr) (kw : ClassId) (k : Nat) (h0 : Heap) (n0 : Nat) : Option Value → Heap → List Loc → Prop := fun v h L => v = none ∧ Fr n0 L ∧ n0 ≤ h.size ∧ Keep h0 h [b, wd]
set_option maxRecDepth 65536 in
set_option maxHeartbeats 40000000 in
theorem rmSet (l : Launch) (Z : State) (a0 : Array Value) (hw : ∀ d ∈ tables_1, d.before a0 Z = true) (ws : List Jvm.Cond) (b wd : Addr) (kw : ClassId) (k : Nat) (h0 : Heap) (n0 : Nat) (Z0 : n0 ≤ h0.size) (hk : k < 16) (O_0 : Old Z n0 h0) (S_a : Sta Z Z.heap "java/util/BitSet" "$assertionsDisabled" "Z" (.int 1)) (E_b : Exa Z h0 b "java/util/BitSet") (g_b : n0 ≤ b) (g_wd : n0 ≤ wd) (F_u : Fld Z h0 b "java/util/BitSet" "wordsInUse" "I" (.int 0)) (F_w : Fld Z h0 b "java/util/BitSet" "words" "[J" (.ref wd)) (V_w : Arv Z h0 wd kw .long 1 [.long (0 : Int64)] (.long (0 : Int64))) (neb : b ≠ wd) :
    MetFree l (⟨"java/util/BitSet", "set", "(I)V"⟩ : MethodName) (head1 (Jvm.Cond.code (⟨"java/util/BitSet", "set", "(I)V"⟩ : MethodName) jdk_92_method_19_code 3 none :: ws) ({ frames := 2, cells := 0, slots := 0, locals := 28 } : Room)) (fun as_ U => as_ = #[(.ref b), (.int (Int32.ofNat k))] ∧ Z.Warmed39 U.vm ∧ U.heap = h0) (fun _ _ _ _ _ => True) (fun _ U o U' => ∃ v L, o = .returned v ∧ (Q_rmSet Z b wd kw k h0 n0) v U'.heap L ∧ FrameEnd U o U' L ({ frames := 2, cells := 0, slots := 0, locals := 28 } : Room).cells ({ frames := 2, cells := 0, slots := 0, locals := 28 } : Room).slots) := by
  refine MetFree.of_bodySF (plainFor_of_name pn_1) hisR ?_
  intro p e s m args below meth c s₁ Bd hml0 hP hK
  obtain ⟨rfl, hZ, hh⟩ := hP
  have hx := Bd.exec
  have hby := Bd.bytes
  have hml : c.maxLocals = 3 := hml0
  have hown : s.vm.findClass "java/util/BitSet" = some m.cls := findClass_of_methodNamed Bd.named
  have hnm := (name_of_methodNamed Bd.named Bd.method).1
  have X0 : Stand p l e ({ frames := 2, cells := 0, slots := 0, locals := 28 } : Room) s m #[(.ref b), (.int (Int32.ofNat k))] below meth c s₁ [] 0 0 := Stand.of_body Bd
  have e0 : s₁.heap = h0 := by rw [← hh, Bd.state]; rfl
  have N0 := Fr.nil n0
  show own_G p e below s (Q_rmSet Z b wd kw k h0 n0) ({ frames := 2, cells := 0, slots := 0, locals := 28 } : Room).cells ({ frames := 2, cells := 0, slots := 0, locals := 28 } : Room).slots (s₁.setTop (entryFrame m #[(.ref b), (.int (Int32.ofNat k))] 3))
  rw [ef_rmSet m b (Int32.ofNat k)]
  have K0 : Keep h0 h0 [b, wd] := Keep.refl _ _
  show own_G p e below s _ _ _ (s₁.setTop (mkF m 0 #[.val (.ref b), .val (.int (Int32.ofNat k)), .unset] []))
  refine own_go (fun _ kk_ => XS.iloadN X0.here hx rfl (hb hby d8_0) rfl kk_) ?_
  show own_G p e below s _ _ _ (s₁.setTop (mkF m 1 #[.val (.ref b), .val (.int (Int32.ofNat k)), .unset] [(.int (Int32.ofNat k))]))
  refine own_if_geY X0 hx (pc := 1) (pc' := 31) (hb hby d8_1) (by decide) (by decide) (own_wi k hk).2 ?_
  show own_G p e below s _ _ _ (s₁.setTop (mkF m 31 #[.val (.ref b), .val (.int (Int32.ofNat k)), .unset] []))
  refine own_go (fun _ kk_ => XS.iloadN X0.here hx rfl (hb hby d8_31) rfl kk_) ?_
  show own_G p e below s _ _ _ (s₁.setTop (mkF m 32 #[.val (.ref b), .val (.int (Int32.ofNat k)), .unset] [(.int (Int32.ofNat k))]))
  obtain ⟨_, _, ⟨T1, L1, k1, n1⟩, -, X1, ⟨Lc1, hQ1, l1, y1, z1⟩, st1⟩ := Jvm.LawKit.callS X0 hx (y := (⟨"java/util/BitSet", "wordIndex", "(I)I"⟩ : MethodName)) hown (mvT hZ (hw _ (List.mem_of_getElem? (i := 32) rfl))) (mvT hZ (hw _ (List.mem_of_getElem? (i := 33) rfl))) (mvT hZ (hw _ (List.mem_of_getElem? (i := 18) rfl))) (mvT hZ (hw _ (List.mem_of_getElem? (i := 34) rfl))) (by decide) (backOf (W := 0) (rmWI l Z a0 hw [] (Int32.ofNat k) h0 n0 Z0) hZ (hw _ (List.mem_of_getElem? (i := 34) rfl)) (hw _ (List.mem_of_getElem? (i := 18) rfl)) (by decide) (by decide)) (g := (mkF m 32 #[.val (.ref b), .val (.int (Int32.ofNat k)), .unset] [(.int (Int32.ofNat k))])) rfl (by rw [hml]; rfl) (argsL := [(.int (Int32.ofNat k))]) (rest := []) (lenOf pd_0 rfl) rfl (by show 2 * 0 + _ ≤ _; exact Nat.le_of_eq rfl) (hb hby d8_32) (fun _ _ => ⟨rfl, e0, (by decide : 0 + 0 ≤ _), (by decide : 0 + 0 ≤ _)⟩)
  dsimp only [Pt.U, Pt.locs, Pt.cells, Pt.slots] at X1 l1 y1 z1 st1 hQ1
  subst l1 y1 z1
  obtain ⟨rfl, N1q, e1⟩ := hQ1
  have N1 := Fr.app N0 N1q
  refine own_go st1 ?_
  show own_G p e below s _ _ _ (T1.setTop (mkF m 35 #[.val (.ref b), .val (.int (Int32.ofNat k)), .unset] [(.int (Int32.ofNat k >>> ((6 : Int32) &&& 31)))]))
  rw [(own_wi k hk).1]
  show own_G p e below s _ _ _ (T1.setTop (mkF m 35 #[.val (.ref b), .val (.int (Int32.ofNat k)), .unset] [(.int (0 : Int32))]))
  refine own_go (fun _ kk_ => XS.istoreN X1.here hx rfl (hb hby d8_35) rfl (l' := #[.val (.ref b), .val (.int (Int32.ofNat k)), .val (.int (0 : Int32))]) rfl kk_) ?_
  show own_G p e below s _ _ _ (T1.setTop (mkF m 36 #[.val (.ref b), .val (.int (Int32.ofNat k)), .val (.int (0 : Int32))] []))
  refine own_go (fun _ kk_ => XS.aloadN X1.here hx rfl (hb hby d8_36) rfl rfl kk_) ?_
  show own_G p e below s _ _ _ (T1.setTop (mkF m 37 #[.val (.ref b), .val (.int (Int32.ofNat k)), .val (.int (0 : Int32))] [(.ref b)]))
  refine own_go (fun _ kk_ => XS.iloadN X1.here hx rfl (hb hby d8_37) rfl kk_) ?_
  show own_G p e below s _ _ _ (T1.setTop (mkF m 38 #[.val (.ref b), .val (.int (Int32.ofNat k)), .val (.int (0 : Int32))] [(.int (0 : Int32)), (.ref b)]))
  obtain ⟨cq2, q2, q2'⟩ := E_b.cell
  obtain ⟨_, _, ⟨T2, L2, k2, n2⟩, -, X2, ⟨Lc2, hQ2, l2, y2, z2⟩, st2⟩ := X1.privateBack hx (y := (⟨"java/util/BitSet", "expandTo", "(I)V"⟩ : MethodName)) hown (mvT hZ (hw _ (List.mem_of_getElem? (i := 53) rfl))) (mvT hZ (hw _ (List.mem_of_getElem? (i := 54) rfl))) (mvT hZ (hw _ (List.mem_of_getElem? (i := 56) rfl))) (Cond.privateMethod_at (mvP hZ (hw _ (List.mem_of_getElem? (i := 55) rfl)) (args := #[]))) (mvT hZ (hw _ (List.mem_of_getElem? (i := 57) rfl))) (by decide) (backOf (W := 0) (rmET l Z a0 hw [] b wd kw h0 n0 Z0 E_b g_b F_u F_w V_w neb) hZ (hw _ (List.mem_of_getElem? (i := 57) rfl)) (hw _ (List.mem_of_getElem? (i := 18) rfl)) (by decide) (by decide)) (g := (mkF m 38 #[.val (.ref b), .val (.int (Int32.ofNat k)), .val (.int (0 : Int32))] [(.int (0 : Int32)), (.ref b)])) rfl (by rw [hml]; rfl) (Steps.refl _) (a := b) (by rw [e1]; exact q2) q2' (argsL := [(.int (0 : Int32))]) (rest := []) (lenOf pd_1 rfl) rfl (by show 2 * 0 + _ ≤ _; exact Nat.le_of_eq rfl) (hb hby d8_38) (fun _ _ => ⟨rfl, e1, (by decide : 0 + 0 ≤ _), (by decide : 0 + 0 ≤ _)⟩)
  dsimp only [Pt.U, Pt.locs, Pt.cells, Pt.slots] at X2 l2 y2 z2 st2 hQ2
  subst l2 y2 z2
  generalize e2 : T2.heap = h2 at hQ2
  obtain ⟨rfl, N2q, Z2, K2q, E2, F2⟩ := hQ2
  have N2 := Fr.app N1 N2q
  refine own_go (fun _ kk_ => st2.trans kk_) ?_
  have K2 : Keep h0 h2 [b, wd] := K0.trans K2q (allS (Or.inl (List.mem_of_getElem? (i := 0) rfl)) all0)
  have V2 := V_w.keep K2q (ninS (Ne.symm neb) nin0)
  have O2 := O_0.keep K2q (allS g_b all0)
  show own_G p e below s _ _ _ (T2.setTop (mkF m 41 #[.val (.ref b), .val (.int (Int32.ofNat k)), .val (.int (0 : Int32))] []))
  refine own_go (fun _ kk_ => XS.aloadN X2.here hx rfl (hb hby d8_41) rfl rfl kk_) ?_
  show own_G p e below s _ _ _ (T2.setTop (mkF m 42 #[.val (.ref b), .val (.int (Int32.ofNat k)), .val (.int (0 : Int32))] [(.ref b)]))
  obtain ⟨T3, X3, e3, st3⟩ := getF X2 hx hZ hown (host := "") (Or.inl (hw _ (List.mem_of_getElem? (i := 36) rfl))) Via.refl e2 F2 (g := (mkF m 42 #[.val (.ref b), .val (.int (Int32.ofNat k)), .val (.int (0 : Int32))] [(.ref b)])) rfl rfl (hb hby d8_42)
  refine own_go st3 ?_
  show own_G p e below s _ _ _ (T3.setTop (mkF m 45 #[.val (.ref b), .val (.int (Int32.ofNat k)), .val (.int (0 : Int32))] [(.ref wd)]))
  refine own_go (fun _ kk_ => XS.iloadN X3.here hx rfl (hb hby d8_45) rfl kk_) ?_
  show own_G p e below s _ _ _ (T3.setTop (mkF m 46 #[.val (.ref b), .val (.int (Int32.ofNat k)), .val (.int (0 : Int32))] [(.int (0 : Int32)), (.ref wd)]))
  refine own_go (fun _ kk_ => XT.dup2 X3.here hx rfl (hb hby d8_46) rfl rfl rfl kk_) ?_
  show own_G p e below s _ _ _ (T3.setTop (mkF m 47 #[.val (.ref b), .val (.int (Int32.ofNat k)), .val (.int (0 : Int32))] [(.int (0 : Int32)), (.ref wd), (.int (0 : Int32)), (.ref wd)]))
  have Vc4 := V2
  obtain ⟨cl4, Ar4, q4, S4, M4, H4, G4⟩ := Vc4
  have hin4 := inb_of (j := (0 : Int32)) S4 ⟨(by decide), (by decide)⟩
  have hat4 := H4.at hin4 (v := (.long (0 : Int64))) rfl
  refine own_go (X3.laload hx (j := (0 : Int32)) (v := (.long (0 : Int64))) (by rw [e3]; exact Ar4.1) (State.isArrayOf_alike hZ.alike Ar4.2.1) Ar4.2.2 hin4 hat4 (g := (mkF m 47 #[.val (.ref b), .val (.int (Int32.ofNat k)), .val (.int (0 : Int32))] [(.int (0 : Int32)), (.ref wd), (.int (0 : Int32)), (.ref wd)])) rfl rfl (hb hby d8_47)) ?_
  show own_G p e below s _ _ _ (T3.setTop (mkF m 48 #[.val (.ref b), .val (.int (Int32.ofNat k)), .val (.int (0 : Int32))] [(.long (0 : Int64)), (.int (0 : Int32)), (.ref wd)]))
  refine own_go (fun _ kk_ => XS.lconst X3.here hx rfl (hb hby d8_48) kk_) ?_
  show own_G p e below s _ _ _ (T3.setTop (mkF m 49 #[.val (.ref b), .val (.int (Int32.ofNat k)), .val (.int (0 : Int32))] [(.long (1 : Int64)), (.long (0 : Int64)), (.int (0 : Int32)), (.ref wd)]))
  refine own_go (fun _ kk_ => XS.iloadN X3.here hx rfl (hb hby d8_49) rfl kk_) ?_
  show own_G p e below s _ _ _ (T3.setTop (mkF m 50 #[.val (.ref b), .val (.int (Int32.ofNat k)), .val (.int (0 : Int32))] [(.int (Int32.ofNat k)), (.long (1 : Int64)), (.long (0 : Int64)), (.int (0 : Int32)), (.ref wd)]))
  refine own_go (fun _ kk_ => XS.lshl X3.here hx rfl (hb hby d8_50) rfl kk_) ?_
  show own_G p e below s _ _ _ (T3.setTop (mkF m 51 #[.val (.ref b), .val (.int (Int32.ofNat k)), .val (.int (0 : Int32))] [(.long ((1 : Int64) <<< ((Int32.ofNat k) &&& 0x3f).toInt64)), (.long (0 : Int64)), (.int (0 : Int32)), (.ref wd)]))
  refine own_go (fun _ kk_ => XS.lor X3.here hx rfl (hb hby d8_51) rfl kk_) ?_
  show own_G p e below s _ _ _ (T3.setTop (mkF m 52 #[.val (.ref b), .val (.int (Int32.ofNat k)), .val (.int (0 : Int32))] [(.long ((0 : Int64) ||| ((1 : Int64) <<< ((Int32.ofNat k) &&& 0x3f).toInt64))), (.int (0 : Int32)), (.ref wd)]))
  have Vc5 := V2
  obtain ⟨cl5, Ar5, q5, S5, M5, H5, G5⟩ := Vc5
  have hin5 := inb_of (j := (0 : Int32)) S5 ⟨(by decide), (by decide)⟩
  obtain ⟨T6, h6, X6, e6, W6, st6⟩ := stJ X3 hx hZ e3 Ar5 (j := (0 : Int32)) hin5 (g := (mkF m 52 #[.val (.ref b), .val (.int (Int32.ofNat k)), .val (.int (0 : Int32))] [(.long ((0 : Int64) ||| ((1 : Int64) <<< ((Int32.ofNat k) &&& 0x3f).toInt64))), (.int (0 : Int32)), (.ref wd)])) rfl rfl (hb hby d8_52)
  refine own_go st6 ?_
  have K6_ := K2.wr W6 (Or.inl (List.mem_of_getElem? (i := 1) rfl))
  have O6_ := O2.wr W6 g_wd
  have E6_b := E2.wr W6
  have F6_b_words := F2.other W6 (Or.inl neb)
  have V6_wd : Arv Z h6 wd kw .long (1 : Int32) [(.long ((0 : Int64) ||| ((1 : Int64) <<< ((Int32.ofNat k) &&& 0x3f).toInt64)))] (.long (0 : Int64)) := Arv.set Ar5 q5 S5 M5 H5 G5 rfl W6 0 rfl (Nat.le_of_ble_eq_true rfl)
  have Z6 : n0 ≤ h6.size := by rw [W6.size]; exact Z2
  have N6 := Fr.snoc X6 N2 g_wd
  show own_G p e below s _ _ _ (T6.setTop (mkF m 53 #[.val (.ref b), .val (.int (Int32.ofNat k)), .val (.int (0 : Int32))] []))
  refine own_go (fun _ kk_ => XS.aloadN X6.here hx rfl (hb hby d8_53) rfl rfl kk_) ?_
  show own_G p e below s _ _ _ (T6.setTop (mkF m 54 #[.val (.ref b), .val (.int (Int32.ofNat k)), .val (.int (0 : Int32))] [(.ref b)]))
  obtain ⟨cq7, q7, q7'⟩ := E6_b.cell
  obtain ⟨_, _, ⟨T7, L7, k7, n7⟩, -, X7, ⟨Lc7, hQ7, l7, y7, z7⟩, st7⟩ := X6.privateBack hx (y := (⟨"java/util/BitSet", "checkInvariants", "()V"⟩ : MethodName)) hown (mvT hZ (hw _ (List.mem_of_getElem? (i := 63) rfl))) (mvT hZ (hw _ (List.mem_of_getElem? (i := 64) rfl))) (mvT hZ (hw _ (List.mem_of_getElem? (i := 66) rfl))) (Cond.privateMethod_at (mvP hZ (hw _ (List.mem_of_getElem? (i := 65) rfl)) (args := #[]))) (mvT hZ (hw _ (List.mem_of_getElem? (i := 67) rfl))) (by decide) (backOf (W := 0) (rmCI l Z a0 hw [] b h6 n0 Z6 (S_a.ext O6_.2)) hZ (hw _ (List.mem_of_getElem? (i := 67) rfl)) (hw _ (List.mem_of_getElem? (i := 18) rfl)) (by decide) (by decide)) (g := (mkF m 54 #[.val (.ref b), .val (.int (Int32.ofNat k)), .val (.int (0 : Int32))] [(.ref b)])) rfl (by rw [hml]; rfl) (Steps.refl _) (a := b) (by rw [e6]; exact q7) q7' (argsL := []) (rest := []) (lenOf pd_2 rfl) rfl (by show 2 * 0 + _ ≤ _; exact Nat.le_of_eq rfl) (hb hby d8_54) (fun _ _ => ⟨rfl, e6, (by decide : 0 + 0 ≤ _), (by decide : 0 + 0 ≤ _)⟩)
  dsimp only [Pt.U, Pt.locs, Pt.cells, Pt.slots] at X7 l7 y7 z7 st7 hQ7
  subst l7 y7 z7
  obtain ⟨rfl, N7q, e7⟩ := hQ7
  have N7 := Fr.app N6 N7q
  refine own_go (fun _ kk_ => st7.trans kk_) ?_
  show own_G p e below s _ _ _ (T7.setTop (mkF m 57 #[.val (.ref b), .val (.int (Int32.ofNat k)), .val (.int (0 : Int32))] []))
  exact own_ret0 X7 hx Bd.returns (BodyLoose.notSynchronized Bd) (hb hby d8_57) e7 ⟨rfl, N7, Z6, K6_⟩ (by decide) (by decide)
theorem d3_0 : decode prog_47_method_1_code 0 = .ok (.aload_n 0, 1) := by decide +kernel
theorem d3_1 : decode prog_47_method_1_code 1 = .ok (.invokespecial 1, 3) := by decide +kernel
theorem d3_4 : decode prog_47_method_1_code 4 = .ok (.aload_n 0, 1) := by decide +kernel
theorem d3_5 : decode prog_47_method_1_code 5 = .ok (.new 7, 3) := by decide +kernel
theorem d3_8 : decode prog_47_method_1_code 8 = .ok (.dup, 1) := by decide +kernel
theorem d3_9 : decode prog_47_method_1_code 9 = .ok (.invokespecial 9, 3) := by decide +kernel
theorem d3_12 : decode prog_47_method_1_code 12 = .ok (.putfield 10, 3) := by decide +kernel
theorem d3_15 : decode prog_47_method_1_code 15 = .ok (.aload_n 0, 1) := by decide +kernel
theorem d3_16 : decode prog_47_method_1_code 16 = .ok (.iconst 2, 1) := by decide +kernel
theorem d3_17 : decode prog_47_method_1_code 17 = .ok (.newarray .int, 2) := by decide +kernel
theorem d3_19 : decode prog_47_method_1_code 19 = .ok (.putfield 16, 3) := by decide +kernel
theorem d3_22 : decode prog_47_method_1_code 22 = .ok (.aload_n 0, 1) := by decide +kernel
theorem d3_23 : decode prog_47_method_1_code 23 = .ok (.iconst 2, 1) := by decide +kernel
theorem d3_24 : decode prog_47_method_1_code 24 = .ok (.newarray .boolean, 2) := by decide +kernel
theorem d3_26 : decode prog_47_method_1_code 26 = .ok (.putfield 20, 3) := by decide +kernel
theorem d3_29 : decode prog_47_method_1_code 29 = .ok (.aload_n 0, 1) := by decide +kernel
theorem d3_30 : decode prog_47_method_1_code 30 = .ok (.iload_n 1, 1) := by decide +kernel
theorem d3_31 : decode prog_47_method_1_code 31 = .ok (.putfield 24, 3) := by decide +kernel
theorem d3_34 : decode prog_47_method_1_code 34 = .ok (.aload_n 0, 1) := by decide +kernel
theorem d3_35 : decode prog_47_method_1_code 35 = .ok (.getfield 10, 3) := by decide +kernel
theorem d3_38 : decode prog_47_method_1_code 38 = .ok (.iload_n 1, 1) := by decide +kernel
theorem d3_39 : decode prog_47_method_1_code 39 = .ok (.invokevirtual 28, 3) := by decide +kernel
theorem d3_42 : decode prog_47_method_1_code 42 = .ok (.return_, 1) := by decide +kernel
theorem pn_2 : plainName "com/example/relyguard/relyguard/Footprint" = true := by first | (simp [plainName, overriddenIn]; done) | decide +kernel
theorem ef_rmFI (m : MethodId) (x0 : Addr) (x1 : Int32) : entryFrame m #[(.ref x0), (.int x1)] 2 = mkF m 0 #[.val (.ref x0), .val (.int x1)] [] := by first | (simp [entryFrame, mkF, argsToLocals, Value.category]; done) | rfl
def Q_rmFI (Z : State) (x : Addr) (k : Nat) (h0 : Heap) (n0 : Nat) : Option Value → Heap → List Loc → Prop := fun v h L => v = none ∧ Fr n0 L ∧ n0 ≤ h.size ∧ Keep h0 h [x] ∧ ∃ (ca wa : Addr) (kc kw : ClassId), h0.size ≤ ca ∧ h0.size ≤ wa ∧ own_FP Z h x ca wa kc kw 0 0 0 0 0 0 0 0
set_option maxRecDepth 65536 in
set_option maxHeartbeats 40000000 in
theorem rmFI (l : Launch) (Z : State) (a0 : Array Value) (hw : ∀ d ∈ tables_1, d.before a0 Z = true) (ws : List Jvm.Cond) (x : Addr) (k : Nat) (h0 : Heap) (n0 : Nat) (Z0 : n0 ≤ h0.size) (hk : k < 16) (O_0 : Old Z n0 h0) (S_a : Sta Z Z.heap "java/util/BitSet" "$assertionsDisabled" "Z" (.int 1)) (E_x : Exa Z h0 x "com/example/relyguard/relyguard/Footprint") (g_x : n0 ≤ x) (F_movers : Fld Z h0 x "com/example/relyguard/relyguard/Footprint" "movers" "Ljava/util/BitSet;" .null) (F_cells : Fld Z h0 x "com/example/relyguard/relyguard/Footprint" "cells" "[I" .null) (F_writes : Fld Z h0 x "com/example/relyguard/relyguard/Footprint" "writes" "[Z" .null) (F_thread : Fld Z h0 x "com/example/relyguard/relyguard/Footprint" "thread" "I" (.int (0 : Int32))) (F_touched : Fld Z h0 x "com/example/relyguard/relyguard/Footprint" "touched" "I" (.int (0 : Int32))) (F_begins : Fld Z h0 x "com/example/relyguard/relyguard/Footprint" "begins" "Z" (.int (0 : Int32))) (F_returns : Fld Z h0 x "com/example/relyguard/relyguard/Footprint" "returns" "Z" (.int (0 : Int32))) (F_endsRun : Fld Z h0 x "com/example/relyguard/relyguard/Footprint" "endsRun" "Z" (.int (0 : Int32))) :
    MetFree l (⟨"com/example/relyguard/relyguard/Footprint", "<init>", "(I)V"⟩ : MethodName) (head1 (Jvm.Cond.code (⟨"com/example/relyguard/relyguard/Footprint", "<init>", "(I)V"⟩ : MethodName) prog_47_method_1_code 2 none :: ws) ({ frames := 3, cells := 4, slots := 8, locals := 42 } : Room)) (fun as_ U => as_ = #[(.ref x), (.int (Int32.ofNat k))] ∧ Z.Warmed39 U.vm ∧ U.heap = h0) (fun _ _ _ _ _ => True) (fun _ U o U' => ∃ v L, o = .returned v ∧ (Q_rmFI Z x k h0 n0) v U'.heap L ∧ FrameEnd U o U' L ({ frames := 3, cells := 4, slots := 8, locals := 42 } : Room).cells ({ frames := 3, cells := 4, slots := 8, locals := 42 } : Room).slots) := by
  refine MetFree.of_bodySF (plainFor_of_name pn_2) hisR ?_
  intro p e s m args below meth c s₁ Bd hml0 hP hK
  obtain ⟨rfl, hZ, hh⟩ := hP
  have hx := Bd.exec
  have hby := Bd.bytes
  have hml : c.maxLocals = 2 := hml0
  have hown : s.vm.findClass "com/example/relyguard/relyguard/Footprint" = some m.cls := findClass_of_methodNamed Bd.named
  have hnm := (name_of_methodNamed Bd.named Bd.method).1
  have X0 : Stand p l e ({ frames := 3, cells := 4, slots := 8, locals := 42 } : Room) s m #[(.ref x), (.int (Int32.ofNat k))] below meth c s₁ [] 0 0 := Stand.of_body Bd
  have e0 : s₁.heap = h0 := by rw [← hh, Bd.state]; rfl
  have N0 := Fr.nil n0
  show own_G p e below s (Q_rmFI Z x k h0 n0) ({ frames := 3, cells := 4, slots := 8, locals := 42 } : Room).cells ({ frames := 3, cells := 4, slots := 8, locals := 42 } : Room).slots (s₁.setTop (entryFrame m #[(.ref x), (.int (Int32.ofNat k))] 2))
  rw [ef_rmFI m x (Int32.ofNat k)]
  have K0 : Keep h0 h0 [x] := Keep.refl _ _
  show own_G p e below s _ _ _ (s₁.setTop (mkF m 0 #[.val (.ref x), .val (.int (Int32.ofNat k))] []))
  refine own_go (fun _ kk_ => XS.aloadN X0.here hx rfl (hb hby d3_0) rfl rfl kk_) ?_
  show own_G p e below s _ _ _ (s₁.setTop (mkF m 1 #[.val (.ref x), .val (.int (Int32.ofNat k))] [(.ref x)]))
  obtain ⟨T1, X1, e1, st1⟩ := initO X0 hx hZ hown (hw _ (List.mem_of_getElem? (i := 13) rfl)) (hw _ (List.mem_of_getElem? (i := 14) rfl)) (hw _ (List.mem_of_getElem? (i := 15) rfl)) e0 (g := (mkF m 1 #[.val (.ref x), .val (.int (Int32.ofNat k))] [(.ref x)])) rfl (by rw [hml]; rfl) rfl (hb hby d3_1) (by decide) (W := 0) (by show 2 * 0 + _ ≤ _; exact Nat.le_of_eq rfl) (by decide)
  refine own_go st1 ?_
  show own_G p e below s _ _ _ (T1.setTop (mkF m 4 #[.val (.ref x), .val (.int (Int32.ofNat k))] []))
  refine own_go (fun _ kk_ => XS.aloadN X1.here hx rfl (hb hby d3_4) rfl rfl kk_) ?_
  show own_G p e below s _ _ _ (T1.setTop (mkF m 5 #[.val (.ref x), .val (.int (Int32.ofNat k))] [(.ref x)]))
  obtain ⟨T2, h2, X2, e2, E2, A2, D2, -, st2⟩ := newO X1 hx hZ hown (hw _ (List.mem_of_getElem? (i := 16) rfl)) (hw _ (List.mem_of_getElem? (i := 17) rfl)) (hw _ (List.mem_of_getElem? (i := 18) rfl)) e1 (g := (mkF m 5 #[.val (.ref x), .val (.int (Int32.ofNat k))] [(.ref x)])) rfl (hb hby d3_5) (by decide) (by decide)
  obtain ⟨b2, g2⟩ : ∃ z, z = h0.size := ⟨_, rfl⟩
  rw [← g2] at A2 D2 st2
  refine own_go st2 ?_
  have K2_ := K0.ext E2
  have O2_ := O_0.ext E2
  have E2_x := E_x.ext E2
  have F2_x_movers := F_movers.ext E2
  have F2_x_cells := F_cells.ext E2
  have F2_x_writes := F_writes.ext E2
  have F2_x_thread := F_thread.ext E2
  have F2_x_touched := F_touched.ext E2
  have F2_x_begins := F_begins.ext E2
  have F2_x_returns := F_returns.ext E2
  have F2_x_endsRun := F_endsRun.ext E2
  have ne_x_b2 : x ≠ b2 := Nat.ne_of_lt (Nat.lt_of_lt_of_le E_x.lt (Nat.le_of_eq g2.symm))
  have g_b2 : n0 ≤ b2 := Nat.le_trans Z0 (Nat.le_of_eq g2.symm)
  have Z2 : n0 ≤ h2.size := Nat.le_trans Z0 E2.1
  have ko_b2 : h0.size ≤ b2 := Nat.le_trans K0.1 (Nat.le_of_eq g2.symm)
  have F2_b2_wordsInUse : Fld Z h2 b2 "java/util/BitSet" "wordsInUse" "I" (.int (0 : Int32)) := D2 (Or.inl (hw _ (List.mem_of_getElem? (i := 24) rfl))) (ty := .int) (by decide)
  have F2_b2_sizeIsSticky : Fld Z h2 b2 "java/util/BitSet" "sizeIsSticky" "Z" (.int (0 : Int32)) := D2 (Or.inl (hw _ (List.mem_of_getElem? (i := 26) rfl))) (ty := .boolean) (by decide)
  have F2_b2_words : Fld Z h2 b2 "java/util/BitSet" "words" "[J" .null := D2 (Or.inl (hw _ (List.mem_of_getElem? (i := 37) rfl))) (ty := (.array .long)) (by decide)
  show own_G p e below s _ _ _ (T2.setTop (mkF m 8 #[.val (.ref x), .val (.int (Int32.ofNat k))] [(.ref b2), (.ref x)]))
  refine own_go (fun _ kk_ => XS.dup X2.here hx rfl (hb hby d3_8) rfl rfl kk_) ?_
  show own_G p e below s _ _ _ (T2.setTop (mkF m 9 #[.val (.ref x), .val (.int (Int32.ofNat k))] [(.ref b2), (.ref b2), (.ref x)]))
  obtain ⟨_, _, ⟨T3, L3, k3, n3⟩, -, X3, ⟨Lc3, hQ3, l3, y3, z3⟩, st3⟩ := X2.specialBack hx (y := (⟨"java/util/BitSet", "<init>", "()V"⟩ : MethodName)) rfl hown (mvT hZ (hw _ (List.mem_of_getElem? (i := 19) rfl))) (mvT hZ (hw _ (List.mem_of_getElem? (i := 20) rfl))) (mvT hZ (hw _ (List.mem_of_getElem? (i := 21) rfl))) (by decide) (backOf (W := 2) (rmBI l Z a0 hw [] b2 h2 n0 Z2 A2 g_b2 F2_b2_wordsInUse F2_b2_sizeIsSticky F2_b2_words) hZ (hw _ (List.mem_of_getElem? (i := 21) rfl)) (hw _ (List.mem_of_getElem? (i := 18) rfl)) (by decide) (by decide)) (g := (mkF m 9 #[.val (.ref x), .val (.int (Int32.ofNat k))] [(.ref b2), (.ref b2), (.ref x)])) rfl (by rw [hml]; rfl) (Steps.refl _) (a := b2) (argsL := []) (rest := [(.ref b2), (.ref x)]) (lenOf pd_2 rfl) rfl (by show 2 * 0 + _ ≤ _; exact Nat.le_of_eq rfl) (hb hby d3_9) (fun _ _ => ⟨rfl, e2, (by decide : 1 + 1 ≤ _), (by decide : 3 + 1 ≤ _)⟩)
  dsimp only [Pt.U, Pt.locs, Pt.cells, Pt.slots] at X3 l3 y3 z3 st3 hQ3
  subst l3 y3 z3
  generalize e3 : T3.heap = h3 at hQ3
  obtain ⟨rfl, N3q, Z3, K3q, E3, wd, kwd, kow_, Fw3, Fu3, V3⟩ := hQ3
  have N3 := Fr.app N0 N3q
  refine own_go (fun _ kk_ => st3.trans kk_) ?_
  have K3 : Keep h0 h3 [x] := K2_.trans K3q (allS (Or.inr ko_b2) all0)
  have O3 := O2_.keep K3q (allS g_b2 all0)
  have g_wd : n0 ≤ wd := Nat.le_trans Z2 kow_
  have ko_wd : h0.size ≤ wd := Nat.le_trans K2_.1 kow_
  have ne_b_wd : b2 ≠ wd := Nat.ne_of_lt (Nat.lt_of_lt_of_le A2.lt kow_)
  have ne_x_wd : x ≠ wd := Nat.ne_of_lt (Nat.lt_of_lt_of_le E2_x.lt kow_)
  have E3_x := E2_x.keep K3q
  have F3_movers := F2_x_movers.keep K3q (ninS ne_x_b2 nin0)
  have F3_cells := F2_x_cells.keep K3q (ninS ne_x_b2 nin0)
  have F3_writes := F2_x_writes.keep K3q (ninS ne_x_b2 nin0)
  have F3_thread := F2_x_thread.keep K3q (ninS ne_x_b2 nin0)
  have F3_touched := F2_x_touched.keep K3q (ninS ne_x_b2 nin0)
  have F3_begins := F2_x_begins.keep K3q (ninS ne_x_b2 nin0)
  have F3_returns := F2_x_returns.keep K3q (ninS ne_x_b2 nin0)
  have F3_endsRun := F2_x_endsRun.keep K3q (ninS ne_x_b2 nin0)
  show own_G p e below s _ _ _ (T3.setTop (mkF m 12 #[.val (.ref x), .val (.int (Int32.ofNat k))] [(.ref b2), (.ref x)]))
  obtain ⟨T4, h4, X4, e4, W4, st4⟩ := putF X3 hx hZ hown (host := "") (Or.inl (hw _ (List.mem_of_getElem? (i := 38) rfl))) Via.refl e3 F3_movers E3_x (Or.inr ⟨(hw _ (List.mem_of_getElem? (i := 39) rfl)), rfl, hnm⟩) (hw _ (List.mem_of_getElem? (i := 8) rfl)) (ty := (.object "java/util/BitSet")) (by decide) rfl rfl (g := (mkF m 12 #[.val (.ref x), .val (.int (Int32.ofNat k))] [(.ref b2), (.ref x)])) rfl rfl (hb hby d3_12)
  refine own_go st4 ?_
  have K4_ := K3.wr W4 (Or.inl (List.mem_of_getElem? (i := 0) rfl))
  have O4_ := O3.wr W4 g_x
  have E4_b2 := E3.wr W4
  have F4_b2_words := Fw3.other W4 (Or.inl (Ne.symm ne_x_b2))
  have F4_b2_wordsInUse := Fu3.other W4 (Or.inl (Ne.symm ne_x_b2))
  have V4_wd := V3.other W4 (Ne.symm ne_x_wd)
  have E4_x := E3_x.wr W4
  have F4_x_movers := F3_movers.same W4
  have F4_x_cells := F3_cells.other W4 (Or.inr (slot_ne (Or.inl (hw _ (List.mem_of_getElem? (i := 42) rfl))) (Or.inr (hw _ (List.mem_of_getElem? (i := 39) rfl))) (by decide) (t := (.array .int)) (t' := (.object "java/util/BitSet")) (by decide) (by decide)))
  have F4_x_writes := F3_writes.other W4 (Or.inr (slot_ne (Or.inl (hw _ (List.mem_of_getElem? (i := 45) rfl))) (Or.inr (hw _ (List.mem_of_getElem? (i := 39) rfl))) (by decide) (t := (.array .boolean)) (t' := (.object "java/util/BitSet")) (by decide) (by decide)))
  have F4_x_thread := F3_thread.other W4 (Or.inr (slot_ne (Or.inr (hw _ (List.mem_of_getElem? (i := 47) rfl))) (Or.inr (hw _ (List.mem_of_getElem? (i := 39) rfl))) (by decide) (t := .int) (t' := (.object "java/util/BitSet")) (by decide) (by decide)))
  have F4_x_touched := F3_touched.other W4 (Or.inr (slot_ne (Or.inl (hw _ (List.mem_of_getElem? (i := 81) rfl))) (Or.inr (hw _ (List.mem_of_getElem? (i := 39) rfl))) (by decide) (t := .int) (t' := (.object "java/util/BitSet")) (by decide) (by decide)))
  have F4_x_begins := F3_begins.other W4 (Or.inr (slot_ne (Or.inl (hw _ (List.mem_of_getElem? (i := 77) rfl))) (Or.inr (hw _ (List.mem_of_getElem? (i := 39) rfl))) (by decide) (t := .boolean) (t' := (.object "java/util/BitSet")) (by decide) (by decide)))
  have F4_x_returns := F3_returns.other W4 (Or.inr (slot_ne (Or.inl (hw _ (List.mem_of_getElem? (i := 79) rfl))) (Or.inr (hw _ (List.mem_of_getElem? (i := 39) rfl))) (by decide) (t := .boolean) (t' := (.object "java/util/BitSet")) (by decide) (by decide)))
  have F4_x_endsRun := F3_endsRun.other W4 (Or.inr (slot_ne (Or.inl (hw _ (List.mem_of_getElem? (i := 75) rfl))) (Or.inr (hw _ (List.mem_of_getElem? (i := 39) rfl))) (by decide) (t := .boolean) (t' := (.object "java/util/BitSet")) (by decide) (by decide)))
  have Z4 : n0 ≤ h4.size := by rw [W4.size]; exact Z3
  have N4 := Fr.snoc X4 N3 g_x
  show own_G p e below s _ _ _ (T4.setTop (mkF m 15 #[.val (.ref x), .val (.int (Int32.ofNat k))] []))
  refine own_go (fun _ kk_ => XS.aloadN X4.here hx rfl (hb hby d3_15) rfl rfl kk_) ?_
  show own_G p e below s _ _ _ (T4.setTop (mkF m 16 #[.val (.ref x), .val (.int (Int32.ofNat k))] [(.ref x)]))
  refine own_go (fun _ kk_ => XS.iconst X4.here hx rfl (hb hby d3_16) kk_) ?_
  show own_G p e below s _ _ _ (T4.setTop (mkF m 17 #[.val (.ref x), .val (.int (Int32.ofNat k))] [(.int (2 : Int32)), (.ref x)]))
  obtain ⟨T5, h5, k5, X5, e5, E5, A5, st5⟩ := newP X4 hx hZ (hw _ (List.mem_of_getElem? (i := 40) rfl)) e4 (g := (mkF m 17 #[.val (.ref x), .val (.int (Int32.ofNat k))] [(.int (2 : Int32)), (.ref x)])) rfl (hb hby d3_17) rfl (by decide) (cap := 2) (by decide) (by decide) (by decide) (by decide)
  obtain ⟨b5, g5⟩ : ∃ z, z = h4.size := ⟨_, rfl⟩
  rw [← g5] at A5 st5
  refine own_go st5 ?_
  have K5_ := K4_.ext E5
  have O5_ := O4_.ext E5
  have E5_b2 := E4_b2.ext E5
  have F5_b2_words := F4_b2_words.ext E5
  have F5_b2_wordsInUse := F4_b2_wordsInUse.ext E5
  have V5_wd := V4_wd.ext E5
  have E5_x := E4_x.ext E5
  have F5_x_movers := F4_x_movers.ext E5
  have F5_x_cells := F4_x_cells.ext E5
  have F5_x_writes := F4_x_writes.ext E5
  have F5_x_thread := F4_x_thread.ext E5
  have F5_x_touched := F4_x_touched.ext E5
  have F5_x_begins := F4_x_begins.ext E5
  have F5_x_returns := F4_x_returns.ext E5
  have F5_x_endsRun := F4_x_endsRun.ext E5
  have ne_b2_b5 : b2 ≠ b5 := Nat.ne_of_lt (Nat.lt_of_lt_of_le E4_b2.lt (Nat.le_of_eq g5.symm))
  have ne_wd_b5 : wd ≠ b5 := Nat.ne_of_lt (Nat.lt_of_lt_of_le V4_wd.lt (Nat.le_of_eq g5.symm))
  have ne_x_b5 : x ≠ b5 := Nat.ne_of_lt (Nat.lt_of_lt_of_le E4_x.lt (Nat.le_of_eq g5.symm))
  have g_b5 : n0 ≤ b5 := Nat.le_trans Z4 (Nat.le_of_eq g5.symm)
  have Z5 : n0 ≤ h5.size := Nat.le_trans Z4 E5.1
  have ko_b5 : h0.size ≤ b5 := Nat.le_trans K4_.1 (Nat.le_of_eq g5.symm)
  have V5_b5 : Arv Z h5 b5 k5 .int (2 : Int32) [(.int (0 : Int32)), (.int (0 : Int32))] (.int (0 : Int32)) := (Arv.new A5 (by decide)).pad (pad_rep [] (.int (0 : Int32)) 2)
  show own_G p e below s _ _ _ (T5.setTop (mkF m 19 #[.val (.ref x), .val (.int (Int32.ofNat k))] [(.ref b5), (.ref x)]))
  obtain ⟨T6, h6, X6, e6, W6, st6⟩ := putF X5 hx hZ hown (host := "") (Or.inl (hw _ (List.mem_of_getElem? (i := 41) rfl))) Via.refl e5 F5_x_cells E5_x (Or.inl (hw _ (List.mem_of_getElem? (i := 42) rfl))) (hw _ (List.mem_of_getElem? (i := 8) rfl)) (ty := (.array .int)) (by decide) rfl rfl (g := (mkF m 19 #[.val (.ref x), .val (.int (Int32.ofNat k))] [(.ref b5), (.ref x)])) rfl rfl (hb hby d3_19)
  refine own_go st6 ?_
  have K6_ := K5_.wr W6 (Or.inl (List.mem_of_getElem? (i := 0) rfl))
  have O6_ := O5_.wr W6 g_x
  have E6_b2 := E5_b2.wr W6
  have F6_b2_words := F5_b2_words.other W6 (Or.inl (Ne.symm ne_x_b2))
  have F6_b2_wordsInUse := F5_b2_wordsInUse.other W6 (Or.inl (Ne.symm ne_x_b2))
  have V6_wd := V5_wd.other W6 (Ne.symm ne_x_wd)
  have E6_x := E5_x.wr W6
  have F6_x_movers := F5_x_movers.other W6 (Or.inr (slot_ne (Or.inr (hw _ (List.mem_of_getElem? (i := 39) rfl))) (Or.inl (hw _ (List.mem_of_getElem? (i := 42) rfl))) (by decide) (t := (.object "java/util/BitSet")) (t' := (.array .int)) (by decide) (by decide)))
  have F6_x_cells := F5_x_cells.same W6
  have F6_x_writes := F5_x_writes.other W6 (Or.inr (slot_ne (Or.inl (hw _ (List.mem_of_getElem? (i := 45) rfl))) (Or.inl (hw _ (List.mem_of_getElem? (i := 42) rfl))) (by decide) (t := (.array .boolean)) (t' := (.array .int)) (by decide) (by decide)))
  have F6_x_thread := F5_x_thread.other W6 (Or.inr (slot_ne (Or.inr (hw _ (List.mem_of_getElem? (i := 47) rfl))) (Or.inl (hw _ (List.mem_of_getElem? (i := 42) rfl))) (by decide) (t := .int) (t' := (.array .int)) (by decide) (by decide)))
  have F6_x_touched := F5_x_touched.other W6 (Or.inr (slot_ne (Or.inl (hw _ (List.mem_of_getElem? (i := 81) rfl))) (Or.inl (hw _ (List.mem_of_getElem? (i := 42) rfl))) (by decide) (t := .int) (t' := (.array .int)) (by decide) (by decide)))
  have F6_x_begins := F5_x_begins.other W6 (Or.inr (slot_ne (Or.inl (hw _ (List.mem_of_getElem? (i := 77) rfl))) (Or.inl (hw _ (List.mem_of_getElem? (i := 42) rfl))) (by decide) (t := .boolean) (t' := (.array .int)) (by decide) (by decide)))
  have F6_x_returns := F5_x_returns.other W6 (Or.inr (slot_ne (Or.inl (hw _ (List.mem_of_getElem? (i := 79) rfl))) (Or.inl (hw _ (List.mem_of_getElem? (i := 42) rfl))) (by decide) (t := .boolean) (t' := (.array .int)) (by decide) (by decide)))
  have F6_x_endsRun := F5_x_endsRun.other W6 (Or.inr (slot_ne (Or.inl (hw _ (List.mem_of_getElem? (i := 75) rfl))) (Or.inl (hw _ (List.mem_of_getElem? (i := 42) rfl))) (by decide) (t := .boolean) (t' := (.array .int)) (by decide) (by decide)))
  have V6_b5 := V5_b5.other W6 (Ne.symm ne_x_b5)
  have Z6 : n0 ≤ h6.size := by rw [W6.size]; exact Z5
  have N6 := Fr.snoc X6 N4 g_x
  show own_G p e below s _ _ _ (T6.setTop (mkF m 22 #[.val (.ref x), .val (.int (Int32.ofNat k))] []))
  refine own_go (fun _ kk_ => XS.aloadN X6.here hx rfl (hb hby d3_22) rfl rfl kk_) ?_
  show own_G p e below s _ _ _ (T6.setTop (mkF m 23 #[.val (.ref x), .val (.int (Int32.ofNat k))] [(.ref x)]))
  refine own_go (fun _ kk_ => XS.iconst X6.here hx rfl (hb hby d3_23) kk_) ?_
  show own_G p e below s _ _ _ (T6.setTop (mkF m 24 #[.val (.ref x), .val (.int (Int32.ofNat k))] [(.int (2 : Int32)), (.ref x)]))
  obtain ⟨T7, h7, k7, X7, e7, E7, A7, st7⟩ := newP X6 hx hZ (hw _ (List.mem_of_getElem? (i := 43) rfl)) e6 (g := (mkF m 24 #[.val (.ref x), .val (.int (Int32.ofNat k))] [(.int (2 : Int32)), (.ref x)])) rfl (hb hby d3_24) rfl (by decide) (cap := 2) (by decide) (by decide) (by decide) (by decide)
  obtain ⟨b7, g7⟩ : ∃ z, z = h6.size := ⟨_, rfl⟩
  rw [← g7] at A7 st7
  refine own_go st7 ?_
  have K7_ := K6_.ext E7
  have O7_ := O6_.ext E7
  have E7_b2 := E6_b2.ext E7
  have F7_b2_words := F6_b2_words.ext E7
  have F7_b2_wordsInUse := F6_b2_wordsInUse.ext E7
  have V7_wd := V6_wd.ext E7
  have E7_x := E6_x.ext E7
  have F7_x_movers := F6_x_movers.ext E7
  have F7_x_cells := F6_x_cells.ext E7
  have F7_x_writes := F6_x_writes.ext E7
  have F7_x_thread := F6_x_thread.ext E7
  have F7_x_touched := F6_x_touched.ext E7
  have F7_x_begins := F6_x_begins.ext E7
  have F7_x_returns := F6_x_returns.ext E7
  have F7_x_endsRun := F6_x_endsRun.ext E7
  have V7_b5 := V6_b5.ext E7
  have ne_b2_b7 : b2 ≠ b7 := Nat.ne_of_lt (Nat.lt_of_lt_of_le E6_b2.lt (Nat.le_of_eq g7.symm))
  have ne_wd_b7 : wd ≠ b7 := Nat.ne_of_lt (Nat.lt_of_lt_of_le V6_wd.lt (Nat.le_of_eq g7.symm))
  have ne_x_b7 : x ≠ b7 := Nat.ne_of_lt (Nat.lt_of_lt_of_le E6_x.lt (Nat.le_of_eq g7.symm))
  have ne_b5_b7 : b5 ≠ b7 := Nat.ne_of_lt (Nat.lt_of_lt_of_le V6_b5.lt (Nat.le_of_eq g7.symm))
  have g_b7 : n0 ≤ b7 := Nat.le_trans Z6 (Nat.le_of_eq g7.symm)
  have Z7 : n0 ≤ h7.size := Nat.le_trans Z6 E7.1
  have ko_b7 : h0.size ≤ b7 := Nat.le_trans K6_.1 (Nat.le_of_eq g7.symm)
  have V7_b7 : Arv Z h7 b7 k7 .boolean (2 : Int32) [(.int (0 : Int32)), (.int (0 : Int32))] (.int (0 : Int32)) := (Arv.new A7 (by decide)).pad (pad_rep [] (.int (0 : Int32)) 2)
  show own_G p e below s _ _ _ (T7.setTop (mkF m 26 #[.val (.ref x), .val (.int (Int32.ofNat k))] [(.ref b7), (.ref x)]))
  obtain ⟨T8, h8, X8, e8, W8, st8⟩ := putF X7 hx hZ hown (host := "") (Or.inl (hw _ (List.mem_of_getElem? (i := 44) rfl))) Via.refl e7 F7_x_writes E7_x (Or.inl (hw _ (List.mem_of_getElem? (i := 45) rfl))) (hw _ (List.mem_of_getElem? (i := 8) rfl)) (ty := (.array .boolean)) (by decide) rfl rfl (g := (mkF m 26 #[.val (.ref x), .val (.int (Int32.ofNat k))] [(.ref b7), (.ref x)])) rfl rfl (hb hby d3_26)
  refine own_go st8 ?_
  have K8_ := K7_.wr W8 (Or.inl (List.mem_of_getElem? (i := 0) rfl))
  have O8_ := O7_.wr W8 g_x
  have E8_b2 := E7_b2.wr W8
  have F8_b2_words := F7_b2_words.other W8 (Or.inl (Ne.symm ne_x_b2))
  have F8_b2_wordsInUse := F7_b2_wordsInUse.other W8 (Or.inl (Ne.symm ne_x_b2))
  have V8_wd := V7_wd.other W8 (Ne.symm ne_x_wd)
  have E8_x := E7_x.wr W8
  have F8_x_movers := F7_x_movers.other W8 (Or.inr (slot_ne (Or.inr (hw _ (List.mem_of_getElem? (i := 39) rfl))) (Or.inl (hw _ (List.mem_of_getElem? (i := 45) rfl))) (by decide) (t := (.object "java/util/BitSet")) (t' := (.array .boolean)) (by decide) (by decide)))
  have F8_x_cells := F7_x_cells.other W8 (Or.inr (slot_ne (Or.inl (hw _ (List.mem_of_getElem? (i := 42) rfl))) (Or.inl (hw _ (List.mem_of_getElem? (i := 45) rfl))) (by decide) (t := (.array .int)) (t' := (.array .boolean)) (by decide) (by decide)))
  have F8_x_writes := F7_x_writes.same W8
  have F8_x_thread := F7_x_thread.other W8 (Or.inr (slot_ne (Or.inr (hw _ (List.mem_of_getElem? (i := 47) rfl))) (Or.inl (hw _ (List.mem_of_getElem? (i := 45) rfl))) (by decide) (t := .int) (t' := (.array .boolean)) (by decide) (by decide)))
  have F8_x_touched := F7_x_touched.other W8 (Or.inr (slot_ne (Or.inl (hw _ (List.mem_of_getElem? (i := 81) rfl))) (Or.inl (hw _ (List.mem_of_getElem? (i := 45) rfl))) (by decide) (t := .int) (t' := (.array .boolean)) (by decide) (by decide)))
  have F8_x_begins := F7_x_begins.other W8 (Or.inr (slot_ne (Or.inl (hw _ (List.mem_of_getElem? (i := 77) rfl))) (Or.inl (hw _ (List.mem_of_getElem? (i := 45) rfl))) (by decide) (t := .boolean) (t' := (.array .boolean)) (by decide) (by decide)))
  have F8_x_returns := F7_x_returns.other W8 (Or.inr (slot_ne (Or.inl (hw _ (List.mem_of_getElem? (i := 79) rfl))) (Or.inl (hw _ (List.mem_of_getElem? (i := 45) rfl))) (by decide) (t := .boolean) (t' := (.array .boolean)) (by decide) (by decide)))
  have F8_x_endsRun := F7_x_endsRun.other W8 (Or.inr (slot_ne (Or.inl (hw _ (List.mem_of_getElem? (i := 75) rfl))) (Or.inl (hw _ (List.mem_of_getElem? (i := 45) rfl))) (by decide) (t := .boolean) (t' := (.array .boolean)) (by decide) (by decide)))
  have V8_b5 := V7_b5.other W8 (Ne.symm ne_x_b5)
  have V8_b7 := V7_b7.other W8 (Ne.symm ne_x_b7)
  have Z8 : n0 ≤ h8.size := by rw [W8.size]; exact Z7
  have N8 := Fr.snoc X8 N6 g_x
  show own_G p e below s _ _ _ (T8.setTop (mkF m 29 #[.val (.ref x), .val (.int (Int32.ofNat k))] []))
  refine own_go (fun _ kk_ => XS.aloadN X8.here hx rfl (hb hby d3_29) rfl rfl kk_) ?_
  show own_G p e below s _ _ _ (T8.setTop (mkF m 30 #[.val (.ref x), .val (.int (Int32.ofNat k))] [(.ref x)]))
  refine own_go (fun _ kk_ => XS.iloadN X8.here hx rfl (hb hby d3_30) rfl kk_) ?_
  show own_G p e below s _ _ _ (T8.setTop (mkF m 31 #[.val (.ref x), .val (.int (Int32.ofNat k))] [(.int (Int32.ofNat k)), (.ref x)]))
  obtain ⟨T9, h9, X9, e9, W9, st9⟩ := putF X8 hx hZ hown (host := "") (Or.inl (hw _ (List.mem_of_getElem? (i := 46) rfl))) Via.refl e8 F8_x_thread E8_x (Or.inr ⟨(hw _ (List.mem_of_getElem? (i := 47) rfl)), rfl, hnm⟩) (hw _ (List.mem_of_getElem? (i := 8) rfl)) (ty := .int) (by decide) rfl rfl (g := (mkF m 31 #[.val (.ref x), .val (.int (Int32.ofNat k))] [(.int (Int32.ofNat k)), (.ref x)])) rfl rfl (hb hby d3_31)
  refine own_go st9 ?_
  have K9_ := K8_.wr W9 (Or.inl (List.mem_of_getElem? (i := 0) rfl))
  have O9_ := O8_.wr W9 g_x
  have E9_b2 := E8_b2.wr W9
  have F9_b2_words := F8_b2_words.other W9 (Or.inl (Ne.symm ne_x_b2))
  have F9_b2_wordsInUse := F8_b2_wordsInUse.other W9 (Or.inl (Ne.symm ne_x_b2))
  have V9_wd := V8_wd.other W9 (Ne.symm ne_x_wd)
  have E9_x := E8_x.wr W9
  have F9_x_movers := F8_x_movers.other W9 (Or.inr (slot_ne (Or.inr (hw _ (List.mem_of_getElem? (i := 39) rfl))) (Or.inr (hw _ (List.mem_of_getElem? (i := 47) rfl))) (by decide) (t := (.object "java/util/BitSet")) (t' := .int) (by decide) (by decide)))
  have F9_x_cells := F8_x_cells.other W9 (Or.inr (slot_ne (Or.inl (hw _ (List.mem_of_getElem? (i := 42) rfl))) (Or.inr (hw _ (List.mem_of_getElem? (i := 47) rfl))) (by decide) (t := (.array .int)) (t' := .int) (by decide) (by decide)))
  have F9_x_writes := F8_x_writes.other W9 (Or.inr (slot_ne (Or.inl (hw _ (List.mem_of_getElem? (i := 45) rfl))) (Or.inr (hw _ (List.mem_of_getElem? (i := 47) rfl))) (by decide) (t := (.array .boolean)) (t' := .int) (by decide) (by decide)))
  have F9_x_thread := F8_x_thread.same W9
  have F9_x_touched := F8_x_touched.other W9 (Or.inr (slot_ne (Or.inl (hw _ (List.mem_of_getElem? (i := 81) rfl))) (Or.inr (hw _ (List.mem_of_getElem? (i := 47) rfl))) (by decide) (t := .int) (t' := .int) (by decide) (by decide)))
  have F9_x_begins := F8_x_begins.other W9 (Or.inr (slot_ne (Or.inl (hw _ (List.mem_of_getElem? (i := 77) rfl))) (Or.inr (hw _ (List.mem_of_getElem? (i := 47) rfl))) (by decide) (t := .boolean) (t' := .int) (by decide) (by decide)))
  have F9_x_returns := F8_x_returns.other W9 (Or.inr (slot_ne (Or.inl (hw _ (List.mem_of_getElem? (i := 79) rfl))) (Or.inr (hw _ (List.mem_of_getElem? (i := 47) rfl))) (by decide) (t := .boolean) (t' := .int) (by decide) (by decide)))
  have F9_x_endsRun := F8_x_endsRun.other W9 (Or.inr (slot_ne (Or.inl (hw _ (List.mem_of_getElem? (i := 75) rfl))) (Or.inr (hw _ (List.mem_of_getElem? (i := 47) rfl))) (by decide) (t := .boolean) (t' := .int) (by decide) (by decide)))
  have V9_b5 := V8_b5.other W9 (Ne.symm ne_x_b5)
  have V9_b7 := V8_b7.other W9 (Ne.symm ne_x_b7)
  have Z9 : n0 ≤ h9.size := by rw [W9.size]; exact Z8
  have N9 := Fr.snoc X9 N8 g_x
  show own_G p e below s _ _ _ (T9.setTop (mkF m 34 #[.val (.ref x), .val (.int (Int32.ofNat k))] []))
  refine own_go (fun _ kk_ => XS.aloadN X9.here hx rfl (hb hby d3_34) rfl rfl kk_) ?_
  show own_G p e below s _ _ _ (T9.setTop (mkF m 35 #[.val (.ref x), .val (.int (Int32.ofNat k))] [(.ref x)]))
  obtain ⟨T10, X10, e10, st10⟩ := getF X9 hx hZ hown (host := "") (Or.inl (hw _ (List.mem_of_getElem? (i := 38) rfl))) Via.refl e9 F9_x_movers (g := (mkF m 35 #[.val (.ref x), .val (.int (Int32.ofNat k))] [(.ref x)])) rfl rfl (hb hby d3_35)
  refine own_go st10 ?_
  show own_G p e below s _ _ _ (T10.setTop (mkF m 38 #[.val (.ref x), .val (.int (Int32.ofNat k))] [(.ref b2)]))
  refine own_go (fun _ kk_ => XS.iloadN X10.here hx rfl (hb hby d3_38) rfl kk_) ?_
  show own_G p e below s _ _ _ (T10.setTop (mkF m 39 #[.val (.ref x), .val (.int (Int32.ofNat k))] [(.int (Int32.ofNat k)), (.ref b2)]))
  obtain ⟨cq11, kq11, q11a, q11b, q11c⟩ := isOf hZ e10 E9_b2
  obtain ⟨_, _, ⟨T11, L11, k11, n11⟩, -, X11, ⟨Lc11, hQ11, l11, y11, z11⟩, st11⟩ := X10.virtualBack hx (y := (⟨"java/util/BitSet", "set", "(I)V"⟩ : MethodName)) (z := (⟨"java/util/BitSet", "set", "(I)V"⟩ : MethodName)) hown (mvT hZ (hw _ (List.mem_of_getElem? (i := 48) rfl))) (mvT hZ (hw _ (List.mem_of_getElem? (i := 49) rfl))) (notFace_of_selects (args := #[]) (mvT hZ (hw _ (List.mem_of_getElem? (i := 51) rfl)))) (mvT hZ (hw _ (List.mem_of_getElem? (i := 51) rfl))) (mvT hZ (hw _ (List.mem_of_getElem? (i := 50) rfl))) (by decide) (backOf (W := 0) (rmSet l Z a0 hw [] b2 wd kwd k h9 n0 Z9 hk O9_ S_a E9_b2 g_b2 g_wd F9_b2_wordsInUse F9_b2_words V9_wd ne_b_wd) hZ (hw _ (List.mem_of_getElem? (i := 52) rfl)) (hw _ (List.mem_of_getElem? (i := 18) rfl)) (by decide) (by decide)) q11a q11c (g := (mkF m 39 #[.val (.ref x), .val (.int (Int32.ofNat k))] [(.int (Int32.ofNat k)), (.ref b2)])) rfl (by rw [hml]; rfl) (Steps.refl _) (argsL := [(.int (Int32.ofNat k))]) (rest := []) (lenOf pd_1 rfl) rfl (by show 2 * 0 + _ ≤ _; exact Nat.le_of_eq rfl) (hb hby d3_39) (fun _ _ => ⟨rfl, e10, (by decide : 4 + 0 ≤ _), (by decide : 8 + 0 ≤ _)⟩)
  dsimp only [Pt.U, Pt.locs, Pt.cells, Pt.slots] at X11 l11 y11 z11 st11 hQ11
  subst l11 y11 z11
  generalize e11 : T11.heap = h11 at hQ11
  obtain ⟨rfl, N11q, Z11, K11q⟩ := hQ11
  have N11 := Fr.app N9 N11q
  refine own_go (fun _ kk_ => st11.trans kk_) ?_
  have K11 : Keep h0 h11 [x] := K9_.trans K11q (allS (Or.inr ko_b2) (allS (Or.inr ko_wd) all0))
  have E11_x := E9_x.keep K11q
  have F11_movers := F9_x_movers.keep K11q (ninS ne_x_b2 (ninS ne_x_wd nin0))
  have F11_cells := F9_x_cells.keep K11q (ninS ne_x_b2 (ninS ne_x_wd nin0))
  have F11_writes := F9_x_writes.keep K11q (ninS ne_x_b2 (ninS ne_x_wd nin0))
  have F11_thread := F9_x_thread.keep K11q (ninS ne_x_b2 (ninS ne_x_wd nin0))
  have F11_touched := F9_x_touched.keep K11q (ninS ne_x_b2 (ninS ne_x_wd nin0))
  have F11_begins := F9_x_begins.keep K11q (ninS ne_x_b2 (ninS ne_x_wd nin0))
  have F11_returns := F9_x_returns.keep K11q (ninS ne_x_b2 (ninS ne_x_wd nin0))
  have F11_endsRun := F9_x_endsRun.keep K11q (ninS ne_x_b2 (ninS ne_x_wd nin0))
  have V11_cells := V9_b5.keep K11q (ninS (Ne.symm ne_b2_b5) (ninS (Ne.symm ne_wd_b5) nin0))
  have V11_writes := V9_b7.keep K11q (ninS (Ne.symm ne_b2_b7) (ninS (Ne.symm ne_wd_b7) nin0))
  show own_G p e below s _ _ _ (T11.setTop (mkF m 42 #[.val (.ref x), .val (.int (Int32.ofNat k))] []))
  exact own_ret0 X11 hx Bd.returns (BodyLoose.notSynchronized Bd) (hb hby d3_42) e11 ⟨rfl, N11, Z11, K11, b5, b7, _, _, ko_b5, ko_b7, ⟨E11_x, F11_cells, F11_writes, F11_touched, F11_begins, F11_returns, F11_endsRun⟩, ⟨V11_cells, V11_writes⟩, ne_x_b5, ne_x_b7, ne_b5_b7⟩ (by decide) (by decide)
theorem d13_0 : decode prog_47_method_2_code 0 = .ok (.aload_n 0, 1) := by decide +kernel
theorem d13_1 : decode prog_47_method_2_code 1 = .ok (.getfield 32, 3) := by decide +kernel
theorem d13_4 : decode prog_47_method_2_code 4 = .ok (.aload_n 0, 1) := by decide +kernel
theorem d13_5 : decode prog_47_method_2_code 5 = .ok (.getfield 16, 3) := by decide +kernel
theorem d13_8 : decode prog_47_method_2_code 8 = .ok (.arraylength, 1) := by decide +kernel
theorem d13_9 : decode prog_47_method_2_code 9 = .ok (.if_icmp .ne 37, 3) := by decide +kernel
theorem d13_46 : decode prog_47_method_2_code 46 = .ok (.aload_n 0, 1) := by decide +kernel
theorem d13_47 : decode prog_47_method_2_code 47 = .ok (.getfield 16, 3) := by decide +kernel
theorem d13_50 : decode prog_47_method_2_code 50 = .ok (.aload_n 0, 1) := by decide +kernel
theorem d13_51 : decode prog_47_method_2_code 51 = .ok (.getfield 32, 3) := by decide +kernel
theorem d13_54 : decode prog_47_method_2_code 54 = .ok (.iload_n 1, 1) := by decide +kernel
theorem d13_55 : decode prog_47_method_2_code 55 = .ok (.iastore, 1) := by decide +kernel
theorem d13_56 : decode prog_47_method_2_code 56 = .ok (.aload_n 0, 1) := by decide +kernel
theorem d13_57 : decode prog_47_method_2_code 57 = .ok (.getfield 20, 3) := by decide +kernel
theorem d13_60 : decode prog_47_method_2_code 60 = .ok (.aload_n 0, 1) := by decide +kernel
theorem d13_61 : decode prog_47_method_2_code 61 = .ok (.getfield 32, 3) := by decide +kernel
theorem d13_64 : decode prog_47_method_2_code 64 = .ok (.iload_n 2, 1) := by decide +kernel
theorem d13_65 : decode prog_47_method_2_code 65 = .ok (.bastore, 1) := by decide +kernel
theorem d13_66 : decode prog_47_method_2_code 66 = .ok (.aload_n 0, 1) := by decide +kernel
theorem d13_67 : decode prog_47_method_2_code 67 = .ok (.dup, 1) := by decide +kernel
theorem d13_68 : decode prog_47_method_2_code 68 = .ok (.getfield 32, 3) := by decide +kernel
theorem d13_71 : decode prog_47_method_2_code 71 = .ok (.iconst 1, 1) := by decide +kernel
theorem d13_72 : decode prog_47_method_2_code 72 = .ok (.iadd, 1) := by decide +kernel
theorem d13_73 : decode prog_47_method_2_code 73 = .ok (.putfield 32, 3) := by decide +kernel
theorem d13_76 : decode prog_47_method_2_code 76 = .ok (.return_, 1) := by decide +kernel
theorem ef_rmTo0 (m : MethodId) (x0 : Addr) (x1 : Int32) (x2 : Int32) : entryFrame m #[(.ref x0), (.int x1), (.int x2)] 3 = mkF m 0 #[.val (.ref x0), .val (.int x1), .val (.int x2)] [] := by first | (simp [entryFrame, mkF, argsToLocals, Value.category]; done) | rfl
def Q_rmTo0 (Z : State) (x ca wa : Addr) (kc kw : ClassId) (c0 c1 w0 w1 b r e_ x1 x2 : Int32) (h0 : Heap) (n0 : Nat) : Option Value → Heap → List Loc → Prop := fun v h L => v = none ∧ Fr n0 L ∧ n0 ≤ h.size ∧ Keep h0 h [x, ca, wa] ∧ own_FP Z h x ca wa kc kw 1 x1 c1 x2 w1 b r e_
set_option maxRecDepth 65536 in
set_option maxHeartbeats 40000000 in
theorem rmTo0 (l : Launch) (Z : State) (a0 : Array Value) (hw : ∀ d ∈ tables_1, d.before a0 Z = true) (ws : List Jvm.Cond) (x ca wa : Addr) (kc kw : ClassId) (c0 c1 w0 w1 b r e_ x1 x2 : Int32) (h0 : Heap) (n0 : Nat) (Z0 : n0 ≤ h0.size) (FP : own_FP Z h0 x ca wa kc kw 0 c0 c1 w0 w1 b r e_) (g_x : n0 ≤ x) (g_ca : n0 ≤ ca) (g_wa : n0 ≤ wa) (h2 : x2 = 0 ∨ x2 = 1) :
    MetFree l (⟨"com/example/relyguard/relyguard/Footprint", "touch", "(IZ)V"⟩ : MethodName) (head1 (Jvm.Cond.code (⟨"com/example/relyguard/relyguard/Footprint", "touch", "(IZ)V"⟩ : MethodName) prog_47_method_2_code 3 none :: ws) ({ frames := 0, cells := 0, slots := 0, locals := 0 } : Room)) (fun as_ U => as_ = #[(.ref x), (.int x1), (.int x2)] ∧ Z.Warmed39 U.vm ∧ U.heap = h0) (fun _ _ _ _ _ => True) (fun _ U o U' => ∃ v L, o = .returned v ∧ (Q_rmTo0 Z x ca wa kc kw c0 c1 w0 w1 b r e_ x1 x2 h0 n0) v U'.heap L ∧ FrameEnd U o U' L ({ frames := 0, cells := 0, slots := 0, locals := 0 } : Room).cells ({ frames := 0, cells := 0, slots := 0, locals := 0 } : Room).slots) := by
  refine MetFree.of_bodySF (plainFor_of_name pn_2) hisR ?_
  intro p e s m args below meth c s₁ Bd hml0 hP hK
  obtain ⟨rfl, hZ, hh⟩ := hP
  have hx := Bd.exec
  have hby := Bd.bytes
  have hml : c.maxLocals = 3 := hml0
  have hown : s.vm.findClass "com/example/relyguard/relyguard/Footprint" = some m.cls := findClass_of_methodNamed Bd.named
  have hnm := (name_of_methodNamed Bd.named Bd.method).1
  have X0 : Stand p l e ({ frames := 0, cells := 0, slots := 0, locals := 0 } : Room) s m #[(.ref x), (.int x1), (.int x2)] below meth c s₁ [] 0 0 := Stand.of_body Bd
  have e0 : s₁.heap = h0 := by rw [← hh, Bd.state]; rfl
  have N0 := Fr.nil n0
  show own_G p e below s (Q_rmTo0 Z x ca wa kc kw c0 c1 w0 w1 b r e_ x1 x2 h0 n0) ({ frames := 0, cells := 0, slots := 0, locals := 0 } : Room).cells ({ frames := 0, cells := 0, slots := 0, locals := 0 } : Room).slots (s₁.setTop (entryFrame m #[(.ref x), (.int x1), (.int x2)] 3))
  rw [ef_rmTo0 m x x1 x2]
  have K0 : Keep h0 h0 [x, ca, wa] := Keep.refl _ _
  obtain ⟨⟨E_x, F_cells, F_writes, F_touched, F_begins, F_returns, F_endsRun⟩, ⟨V_c, V_w⟩, ne1, ne2, ne3⟩ := FP
  show own_G p e below s _ _ _ (s₁.setTop (mkF m 0 #[.val (.ref x), .val (.int x1), .val (.int x2)] []))
  refine own_go (fun _ kk_ => XS.aloadN X0.here hx rfl (hb hby d13_0) rfl rfl kk_) ?_
  show own_G p e below s _ _ _ (s₁.setTop (mkF m 1 #[.val (.ref x), .val (.int x1), .val (.int x2)] [(.ref x)]))
  obtain ⟨T1, X1, e1, st1⟩ := getF X0 hx hZ hown (host := "") (Or.inl (hw _ (List.mem_of_getElem? (i := 80) rfl))) Via.refl e0 F_touched (g := (mkF m 1 #[.val (.ref x), .val (.int x1), .val (.int x2)] [(.ref x)])) rfl rfl (hb hby d13_1)
  refine own_go st1 ?_
  show own_G p e below s _ _ _ (T1.setTop (mkF m 4 #[.val (.ref x), .val (.int x1), .val (.int x2)] [(.int (0 : Int32))]))
  refine own_go (fun _ kk_ => XS.aloadN X1.here hx rfl (hb hby d13_4) rfl rfl kk_) ?_
  show own_G p e below s _ _ _ (T1.setTop (mkF m 5 #[.val (.ref x), .val (.int x1), .val (.int x2)] [(.ref x), (.int (0 : Int32))]))
  obtain ⟨T2, X2, e2, st2⟩ := getF X1 hx hZ hown (host := "") (Or.inl (hw _ (List.mem_of_getElem? (i := 41) rfl))) Via.refl e1 F_cells (g := (mkF m 5 #[.val (.ref x), .val (.int x1), .val (.int x2)] [(.ref x), (.int (0 : Int32))])) rfl rfl (hb hby d13_5)
  refine own_go st2 ?_
  show own_G p e below s _ _ _ (T2.setTop (mkF m 8 #[.val (.ref x), .val (.int x1), .val (.int x2)] [(.ref ca), (.int (0 : Int32))]))
  have Vc3 := V_c
  obtain ⟨cl3, Ar3, q3, S3, M3, H3, G3⟩ := Vc3
  refine own_go (X2.arraylength hx (cell := cl3) (by rw [e2]; exact Ar3.1) (State.isArrayOf_alike hZ.alike Ar3.2.1) (g := (mkF m 8 #[.val (.ref x), .val (.int x1), .val (.int x2)] [(.ref ca), (.int (0 : Int32))])) rfl (rest := [(.int (0 : Int32))]) rfl (hb hby d13_8)) ?_
  rw [len_of S3 M3]
  show own_G p e below s _ _ _ (T2.setTop (mkF m 9 #[.val (.ref x), .val (.int x1), .val (.int x2)] [(.int (2 : Int32)), (.int (0 : Int32))]))
  refine own_ic_neY X2 hx (pc := 9) (pc' := 46) (hb hby d13_9) (by decide) (by decide) (by decide) ?_
  show own_G p e below s _ _ _ (T2.setTop (mkF m 46 #[.val (.ref x), .val (.int x1), .val (.int x2)] []))
  refine own_go (fun _ kk_ => XS.aloadN X2.here hx rfl (hb hby d13_46) rfl rfl kk_) ?_
  show own_G p e below s _ _ _ (T2.setTop (mkF m 47 #[.val (.ref x), .val (.int x1), .val (.int x2)] [(.ref x)]))
  obtain ⟨T4, X4, e4, st4⟩ := getF X2 hx hZ hown (host := "") (Or.inl (hw _ (List.mem_of_getElem? (i := 41) rfl))) Via.refl e2 F_cells (g := (mkF m 47 #[.val (.ref x), .val (.int x1), .val (.int x2)] [(.ref x)])) rfl rfl (hb hby d13_47)
  refine own_go st4 ?_
  show own_G p e below s _ _ _ (T4.setTop (mkF m 50 #[.val (.ref x), .val (.int x1), .val (.int x2)] [(.ref ca)]))
  refine own_go (fun _ kk_ => XS.aloadN X4.here hx rfl (hb hby d13_50) rfl rfl kk_) ?_
  show own_G p e below s _ _ _ (T4.setTop (mkF m 51 #[.val (.ref x), .val (.int x1), .val (.int x2)] [(.ref x), (.ref ca)]))
  obtain ⟨T5, X5, e5, st5⟩ := getF X4 hx hZ hown (host := "") (Or.inl (hw _ (List.mem_of_getElem? (i := 80) rfl))) Via.refl e4 F_touched (g := (mkF m 51 #[.val (.ref x), .val (.int x1), .val (.int x2)] [(.ref x), (.ref ca)])) rfl rfl (hb hby d13_51)
  refine own_go st5 ?_
  show own_G p e below s _ _ _ (T5.setTop (mkF m 54 #[.val (.ref x), .val (.int x1), .val (.int x2)] [(.int (0 : Int32)), (.ref ca)]))
  refine own_go (fun _ kk_ => XS.iloadN X5.here hx rfl (hb hby d13_54) rfl kk_) ?_
  show own_G p e below s _ _ _ (T5.setTop (mkF m 55 #[.val (.ref x), .val (.int x1), .val (.int x2)] [(.int x1), (.int (0 : Int32)), (.ref ca)]))
  have Vc6 := V_c
  obtain ⟨cl6, Ar6, q6, S6, M6, H6, G6⟩ := Vc6
  have hin6 := inb_of (j := (0 : Int32)) S6 ⟨(by decide), (by decide)⟩
  obtain ⟨T7, h7, X7, e7, W7, st7⟩ := stI X5 hx hZ e5 Ar6 (j := (0 : Int32)) hin6 (g := (mkF m 55 #[.val (.ref x), .val (.int x1), .val (.int x2)] [(.int x1), (.int (0 : Int32)), (.ref ca)])) rfl rfl (hb hby d13_55)
  refine own_go st7 ?_
  have K7_ := K0.wr W7 (Or.inl (List.mem_of_getElem? (i := 1) rfl))
  have E7_x := E_x.wr W7
  have F7_x_cells := F_cells.other W7 (Or.inl ne1)
  have F7_x_writes := F_writes.other W7 (Or.inl ne1)
  have F7_x_touched := F_touched.other W7 (Or.inl ne1)
  have F7_x_begins := F_begins.other W7 (Or.inl ne1)
  have F7_x_returns := F_returns.other W7 (Or.inl ne1)
  have F7_x_endsRun := F_endsRun.other W7 (Or.inl ne1)
  have V7_ca : Arv Z h7 ca kc .int (2 : Int32) [(.int x1), (.int c1)] (.int (0 : Int32)) := Arv.set Ar6 q6 S6 M6 H6 G6 rfl W7 0 rfl (Nat.le_of_ble_eq_true rfl)
  have V7_wa := V_w.other W7 (Ne.symm ne3)
  have Z7 : n0 ≤ h7.size := by rw [W7.size]; exact Z0
  have N7 := Fr.snoc X7 N0 g_ca
  show own_G p e below s _ _ _ (T7.setTop (mkF m 56 #[.val (.ref x), .val (.int x1), .val (.int x2)] []))
  refine own_go (fun _ kk_ => XS.aloadN X7.here hx rfl (hb hby d13_56) rfl rfl kk_) ?_
  show own_G p e below s _ _ _ (T7.setTop (mkF m 57 #[.val (.ref x), .val (.int x1), .val (.int x2)] [(.ref x)]))
  obtain ⟨T8, X8, e8, st8⟩ := getF X7 hx hZ hown (host := "") (Or.inl (hw _ (List.mem_of_getElem? (i := 44) rfl))) Via.refl e7 F7_x_writes (g := (mkF m 57 #[.val (.ref x), .val (.int x1), .val (.int x2)] [(.ref x)])) rfl rfl (hb hby d13_57)
  refine own_go st8 ?_
  show own_G p e below s _ _ _ (T8.setTop (mkF m 60 #[.val (.ref x), .val (.int x1), .val (.int x2)] [(.ref wa)]))
  refine own_go (fun _ kk_ => XS.aloadN X8.here hx rfl (hb hby d13_60) rfl rfl kk_) ?_
  show own_G p e below s _ _ _ (T8.setTop (mkF m 61 #[.val (.ref x), .val (.int x1), .val (.int x2)] [(.ref x), (.ref wa)]))
  obtain ⟨T9, X9, e9, st9⟩ := getF X8 hx hZ hown (host := "") (Or.inl (hw _ (List.mem_of_getElem? (i := 80) rfl))) Via.refl e8 F7_x_touched (g := (mkF m 61 #[.val (.ref x), .val (.int x1), .val (.int x2)] [(.ref x), (.ref wa)])) rfl rfl (hb hby d13_61)
  refine own_go st9 ?_
  show own_G p e below s _ _ _ (T9.setTop (mkF m 64 #[.val (.ref x), .val (.int x1), .val (.int x2)] [(.int (0 : Int32)), (.ref wa)]))
  refine own_go (fun _ kk_ => XS.iloadN X9.here hx rfl (hb hby d13_64) rfl kk_) ?_
  show own_G p e below s _ _ _ (T9.setTop (mkF m 65 #[.val (.ref x), .val (.int x1), .val (.int x2)] [(.int x2), (.int (0 : Int32)), (.ref wa)]))
  have Vc10 := V7_wa
  obtain ⟨cl10, Ar10, q10, S10, M10, H10, G10⟩ := Vc10
  have hin10 := inb_of (j := (0 : Int32)) S10 ⟨(by decide), (by decide)⟩
  obtain ⟨T11, h11, X11, e11, W11, st11⟩ := stZ X9 hx hZ e9 Ar10 (j := (0 : Int32)) hin10 (g := (mkF m 65 #[.val (.ref x), .val (.int x1), .val (.int x2)] [(.int x2), (.int (0 : Int32)), (.ref wa)])) rfl rfl (hb hby d13_65)
  refine own_go st11 ?_
  have K11_ := K7_.wr W11 (Or.inl (List.mem_of_getElem? (i := 2) rfl))
  have E11_x := E7_x.wr W11
  have F11_x_cells := F7_x_cells.other W11 (Or.inl ne2)
  have F11_x_writes := F7_x_writes.other W11 (Or.inl ne2)
  have F11_x_touched := F7_x_touched.other W11 (Or.inl ne2)
  have F11_x_begins := F7_x_begins.other W11 (Or.inl ne2)
  have F11_x_returns := F7_x_returns.other W11 (Or.inl ne2)
  have F11_x_endsRun := F7_x_endsRun.other W11 (Or.inl ne2)
  have V11_ca := V7_ca.other W11 ne3
  have V11_wa : Arv Z h11 wa kw .boolean (2 : Int32) [(.int (nar .boolean x2)), (.int w1)] (.int (0 : Int32)) := Arv.set Ar10 q10 S10 M10 H10 G10 (fits_nar_bool _) W11 0 rfl (Nat.le_of_ble_eq_true rfl)
  have Z11 : n0 ≤ h11.size := by rw [W11.size]; exact Z7
  have N11 := Fr.snoc X11 N7 g_wa
  show own_G p e below s _ _ _ (T11.setTop (mkF m 66 #[.val (.ref x), .val (.int x1), .val (.int x2)] []))
  refine own_go (fun _ kk_ => XS.aloadN X11.here hx rfl (hb hby d13_66) rfl rfl kk_) ?_
  show own_G p e below s _ _ _ (T11.setTop (mkF m 67 #[.val (.ref x), .val (.int x1), .val (.int x2)] [(.ref x)]))
  refine own_go (fun _ kk_ => XS.dup X11.here hx rfl (hb hby d13_67) rfl rfl kk_) ?_
  show own_G p e below s _ _ _ (T11.setTop (mkF m 68 #[.val (.ref x), .val (.int x1), .val (.int x2)] [(.ref x), (.ref x)]))
  obtain ⟨T12, X12, e12, st12⟩ := getF X11 hx hZ hown (host := "") (Or.inl (hw _ (List.mem_of_getElem? (i := 80) rfl))) Via.refl e11 F11_x_touched (g := (mkF m 68 #[.val (.ref x), .val (.int x1), .val (.int x2)] [(.ref x), (.ref x)])) rfl rfl (hb hby d13_68)
  refine own_go st12 ?_
  show own_G p e below s _ _ _ (T12.setTop (mkF m 71 #[.val (.ref x), .val (.int x1), .val (.int x2)] [(.int (0 : Int32)), (.ref x)]))
  refine own_go (fun _ kk_ => XS.iconst X12.here hx rfl (hb hby d13_71) kk_) ?_
  show own_G p e below s _ _ _ (T12.setTop (mkF m 72 #[.val (.ref x), .val (.int x1), .val (.int x2)] [(.int (1 : Int32)), (.int (0 : Int32)), (.ref x)]))
  refine own_go (fun _ kk_ => XS.iadd X12.here hx rfl (hb hby d13_72) rfl kk_) ?_
  show own_G p e below s _ _ _ (T12.setTop (mkF m 73 #[.val (.ref x), .val (.int x1), .val (.int x2)] [(.int (1 : Int32)), (.ref x)]))
  obtain ⟨T13, h13, X13, e13, W13, st13⟩ := putF X12 hx hZ hown (host := "") (Or.inl (hw _ (List.mem_of_getElem? (i := 80) rfl))) Via.refl e12 F11_x_touched E11_x (Or.inl (hw _ (List.mem_of_getElem? (i := 81) rfl))) (hw _ (List.mem_of_getElem? (i := 8) rfl)) (ty := .int) (by decide) rfl rfl (g := (mkF m 73 #[.val (.ref x), .val (.int x1), .val (.int x2)] [(.int (1 : Int32)), (.ref x)])) rfl rfl (hb hby d13_73)
  refine own_go st13 ?_
  have K13_ := K11_.wr W13 (Or.inl (List.mem_of_getElem? (i := 0) rfl))
  have E13_x := E11_x.wr W13
  have F13_x_cells := F11_x_cells.other W13 (Or.inr (slot_ne (Or.inl (hw _ (List.mem_of_getElem? (i := 42) rfl))) (Or.inl (hw _ (List.mem_of_getElem? (i := 81) rfl))) (by decide) (t := (.array .int)) (t' := .int) (by decide) (by decide)))
  have F13_x_writes := F11_x_writes.other W13 (Or.inr (slot_ne (Or.inl (hw _ (List.mem_of_getElem? (i := 45) rfl))) (Or.inl (hw _ (List.mem_of_getElem? (i := 81) rfl))) (by decide) (t := (.array .boolean)) (t' := .int) (by decide) (by decide)))
  have F13_x_touched := F11_x_touched.same W13
  have F13_x_begins := F11_x_begins.other W13 (Or.inr (slot_ne (Or.inl (hw _ (List.mem_of_getElem? (i := 77) rfl))) (Or.inl (hw _ (List.mem_of_getElem? (i := 81) rfl))) (by decide) (t := .boolean) (t' := .int) (by decide) (by decide)))
  have F13_x_returns := F11_x_returns.other W13 (Or.inr (slot_ne (Or.inl (hw _ (List.mem_of_getElem? (i := 79) rfl))) (Or.inl (hw _ (List.mem_of_getElem? (i := 81) rfl))) (by decide) (t := .boolean) (t' := .int) (by decide) (by decide)))
  have F13_x_endsRun := F11_x_endsRun.other W13 (Or.inr (slot_ne (Or.inl (hw _ (List.mem_of_getElem? (i := 75) rfl))) (Or.inl (hw _ (List.mem_of_getElem? (i := 81) rfl))) (by decide) (t := .boolean) (t' := .int) (by decide) (by decide)))
  have V13_ca := V11_ca.other W13 (Ne.symm ne1)
  have V13_wa := V11_wa.other W13 (Ne.symm ne2)
  have Z13 : n0 ≤ h13.size := by rw [W13.size]; exact Z11
  have N13 := Fr.snoc X13 N11 g_x
  show own_G p e below s _ _ _ (T13.setTop (mkF m 76 #[.val (.ref x), .val (.int x1), .val (.int x2)] []))
  exact own_ret0 X13 hx Bd.returns (BodyLoose.notSynchronized Bd) (hb hby d13_76) e13 ⟨rfl, N13, Z13, K13_, (by have q := own_nar01 h2; have V := V13_wa; rw [q] at V; exact ⟨⟨E13_x, F13_x_cells, F13_x_writes, F13_x_touched, F13_x_begins, F13_x_returns, F13_x_endsRun⟩, ⟨V13_ca, V⟩, ne1, ne2, ne3⟩)⟩ (by decide) (by decide)
theorem ef_rmTo1 (m : MethodId) (x0 : Addr) (x1 : Int32) (x2 : Int32) : entryFrame m #[(.ref x0), (.int x1), (.int x2)] 3 = mkF m 0 #[.val (.ref x0), .val (.int x1), .val (.int x2)] [] := by first | (simp [entryFrame, mkF, argsToLocals, Value.category]; done) | rfl
def Q_rmTo1 (Z : State) (x ca wa : Addr) (kc kw : ClassId) (c0 c1 w0 w1 b r e_ x1 x2 : Int32) (h0 : Heap) (n0 : Nat) : Option Value → Heap → List Loc → Prop := fun v h L => v = none ∧ Fr n0 L ∧ n0 ≤ h.size ∧ Keep h0 h [x, ca, wa] ∧ own_FP Z h x ca wa kc kw 2 c0 x1 w0 x2 b r e_
set_option maxRecDepth 65536 in
set_option maxHeartbeats 40000000 in
theorem rmTo1 (l : Launch) (Z : State) (a0 : Array Value) (hw : ∀ d ∈ tables_1, d.before a0 Z = true) (ws : List Jvm.Cond) (x ca wa : Addr) (kc kw : ClassId) (c0 c1 w0 w1 b r e_ x1 x2 : Int32) (h0 : Heap) (n0 : Nat) (Z0 : n0 ≤ h0.size) (FP : own_FP Z h0 x ca wa kc kw 1 c0 c1 w0 w1 b r e_) (g_x : n0 ≤ x) (g_ca : n0 ≤ ca) (g_wa : n0 ≤ wa) (h2 : x2 = 0 ∨ x2 = 1) :
    MetFree l (⟨"com/example/relyguard/relyguard/Footprint", "touch", "(IZ)V"⟩ : MethodName) (head1 (Jvm.Cond.code (⟨"com/example/relyguard/relyguard/Footprint", "touch", "(IZ)V"⟩ : MethodName) prog_47_method_2_code 3 none :: ws) ({ frames := 0, cells := 0, slots := 0, locals := 0 } : Room)) (fun as_ U => as_ = #[(.ref x), (.int x1), (.int x2)] ∧ Z.Warmed39 U.vm ∧ U.heap = h0) (fun _ _ _ _ _ => True) (fun _ U o U' => ∃ v L, o = .returned v ∧ (Q_rmTo1 Z x ca wa kc kw c0 c1 w0 w1 b r e_ x1 x2 h0 n0) v U'.heap L ∧ FrameEnd U o U' L ({ frames := 0, cells := 0, slots := 0, locals := 0 } : Room).cells ({ frames := 0, cells := 0, slots := 0, locals := 0 } : Room).slots) := by
  refine MetFree.of_bodySF (plainFor_of_name pn_2) hisR ?_
  intro p e s m args below meth c s₁ Bd hml0 hP hK
  obtain ⟨rfl, hZ, hh⟩ := hP
  have hx := Bd.exec
  have hby := Bd.bytes
  have hml : c.maxLocals = 3 := hml0
  have hown : s.vm.findClass "com/example/relyguard/relyguard/Footprint" = some m.cls := findClass_of_methodNamed Bd.named
  have hnm := (name_of_methodNamed Bd.named Bd.method).1
  have X0 : Stand p l e ({ frames := 0, cells := 0, slots := 0, locals := 0 } : Room) s m #[(.ref x), (.int x1), (.int x2)] below meth c s₁ [] 0 0 := Stand.of_body Bd
  have e0 : s₁.heap = h0 := by rw [← hh, Bd.state]; rfl
  have N0 := Fr.nil n0
  show own_G p e below s (Q_rmTo1 Z x ca wa kc kw c0 c1 w0 w1 b r e_ x1 x2 h0 n0) ({ frames := 0, cells := 0, slots := 0, locals := 0 } : Room).cells ({ frames := 0, cells := 0, slots := 0, locals := 0 } : Room).slots (s₁.setTop (entryFrame m #[(.ref x), (.int x1), (.int x2)] 3))
  rw [ef_rmTo1 m x x1 x2]
  have K0 : Keep h0 h0 [x, ca, wa] := Keep.refl _ _
  obtain ⟨⟨E_x, F_cells, F_writes, F_touched, F_begins, F_returns, F_endsRun⟩, ⟨V_c, V_w⟩, ne1, ne2, ne3⟩ := FP
  show own_G p e below s _ _ _ (s₁.setTop (mkF m 0 #[.val (.ref x), .val (.int x1), .val (.int x2)] []))
  refine own_go (fun _ kk_ => XS.aloadN X0.here hx rfl (hb hby d13_0) rfl rfl kk_) ?_
  show own_G p e below s _ _ _ (s₁.setTop (mkF m 1 #[.val (.ref x), .val (.int x1), .val (.int x2)] [(.ref x)]))
  obtain ⟨T1, X1, e1, st1⟩ := getF X0 hx hZ hown (host := "") (Or.inl (hw _ (List.mem_of_getElem? (i := 80) rfl))) Via.refl e0 F_touched (g := (mkF m 1 #[.val (.ref x), .val (.int x1), .val (.int x2)] [(.ref x)])) rfl rfl (hb hby d13_1)
  refine own_go st1 ?_
  show own_G p e below s _ _ _ (T1.setTop (mkF m 4 #[.val (.ref x), .val (.int x1), .val (.int x2)] [(.int (1 : Int32))]))
  refine own_go (fun _ kk_ => XS.aloadN X1.here hx rfl (hb hby d13_4) rfl rfl kk_) ?_
  show own_G p e below s _ _ _ (T1.setTop (mkF m 5 #[.val (.ref x), .val (.int x1), .val (.int x2)] [(.ref x), (.int (1 : Int32))]))
  obtain ⟨T2, X2, e2, st2⟩ := getF X1 hx hZ hown (host := "") (Or.inl (hw _ (List.mem_of_getElem? (i := 41) rfl))) Via.refl e1 F_cells (g := (mkF m 5 #[.val (.ref x), .val (.int x1), .val (.int x2)] [(.ref x), (.int (1 : Int32))])) rfl rfl (hb hby d13_5)
  refine own_go st2 ?_
  show own_G p e below s _ _ _ (T2.setTop (mkF m 8 #[.val (.ref x), .val (.int x1), .val (.int x2)] [(.ref ca), (.int (1 : Int32))]))
  have Vc3 := V_c
  obtain ⟨cl3, Ar3, q3, S3, M3, H3, G3⟩ := Vc3
  refine own_go (X2.arraylength hx (cell := cl3) (by rw [e2]; exact Ar3.1) (State.isArrayOf_alike hZ.alike Ar3.2.1) (g := (mkF m 8 #[.val (.ref x), .val (.int x1), .val (.int x2)] [(.ref ca), (.int (1 : Int32))])) rfl (rest := [(.int (1 : Int32))]) rfl (hb hby d13_8)) ?_
  rw [len_of S3 M3]
  show own_G p e below s _ _ _ (T2.setTop (mkF m 9 #[.val (.ref x), .val (.int x1), .val (.int x2)] [(.int (2 : Int32)), (.int (1 : Int32))]))
  refine own_ic_neY X2 hx (pc := 9) (pc' := 46) (hb hby d13_9) (by decide) (by decide) (by decide) ?_
  show own_G p e below s _ _ _ (T2.setTop (mkF m 46 #[.val (.ref x), .val (.int x1), .val (.int x2)] []))
  refine own_go (fun _ kk_ => XS.aloadN X2.here hx rfl (hb hby d13_46) rfl rfl kk_) ?_
  show own_G p e below s _ _ _ (T2.setTop (mkF m 47 #[.val (.ref x), .val (.int x1), .val (.int x2)] [(.ref x)]))
  obtain ⟨T4, X4, e4, st4⟩ := getF X2 hx hZ hown (host := "") (Or.inl (hw _ (List.mem_of_getElem? (i := 41) rfl))) Via.refl e2 F_cells (g := (mkF m 47 #[.val (.ref x), .val (.int x1), .val (.int x2)] [(.ref x)])) rfl rfl (hb hby d13_47)
  refine own_go st4 ?_
  show own_G p e below s _ _ _ (T4.setTop (mkF m 50 #[.val (.ref x), .val (.int x1), .val (.int x2)] [(.ref ca)]))
  refine own_go (fun _ kk_ => XS.aloadN X4.here hx rfl (hb hby d13_50) rfl rfl kk_) ?_
  show own_G p e below s _ _ _ (T4.setTop (mkF m 51 #[.val (.ref x), .val (.int x1), .val (.int x2)] [(.ref x), (.ref ca)]))
  obtain ⟨T5, X5, e5, st5⟩ := getF X4 hx hZ hown (host := "") (Or.inl (hw _ (List.mem_of_getElem? (i := 80) rfl))) Via.refl e4 F_touched (g := (mkF m 51 #[.val (.ref x), .val (.int x1), .val (.int x2)] [(.ref x), (.ref ca)])) rfl rfl (hb hby d13_51)
  refine own_go st5 ?_
  show own_G p e below s _ _ _ (T5.setTop (mkF m 54 #[.val (.ref x), .val (.int x1), .val (.int x2)] [(.int (1 : Int32)), (.ref ca)]))
  refine own_go (fun _ kk_ => XS.iloadN X5.here hx rfl (hb hby d13_54) rfl kk_) ?_
  show own_G p e below s _ _ _ (T5.setTop (mkF m 55 #[.val (.ref x), .val (.int x1), .val (.int x2)] [(.int x1), (.int (1 : Int32)), (.ref ca)]))
  have Vc6 := V_c
  obtain ⟨cl6, Ar6, q6, S6, M6, H6, G6⟩ := Vc6
  have hin6 := inb_of (j := (1 : Int32)) S6 ⟨(by decide), (by decide)⟩
  obtain ⟨T7, h7, X7, e7, W7, st7⟩ := stI X5 hx hZ e5 Ar6 (j := (1 : Int32)) hin6 (g := (mkF m 55 #[.val (.ref x), .val (.int x1), .val (.int x2)] [(.int x1), (.int (1 : Int32)), (.ref ca)])) rfl rfl (hb hby d13_55)
  refine own_go st7 ?_
  have K7_ := K0.wr W7 (Or.inl (List.mem_of_getElem? (i := 1) rfl))
  have E7_x := E_x.wr W7
  have F7_x_cells := F_cells.other W7 (Or.inl ne1)
  have F7_x_writes := F_writes.other W7 (Or.inl ne1)
  have F7_x_touched := F_touched.other W7 (Or.inl ne1)
  have F7_x_begins := F_begins.other W7 (Or.inl ne1)
  have F7_x_returns := F_returns.other W7 (Or.inl ne1)
  have F7_x_endsRun := F_endsRun.other W7 (Or.inl ne1)
  have V7_ca : Arv Z h7 ca kc .int (2 : Int32) [(.int c0), (.int x1)] (.int (0 : Int32)) := Arv.set Ar6 q6 S6 M6 H6 G6 rfl W7 1 rfl (Nat.le_of_ble_eq_true rfl)
  have V7_wa := V_w.other W7 (Ne.symm ne3)
  have Z7 : n0 ≤ h7.size := by rw [W7.size]; exact Z0
  have N7 := Fr.snoc X7 N0 g_ca
  show own_G p e below s _ _ _ (T7.setTop (mkF m 56 #[.val (.ref x), .val (.int x1), .val (.int x2)] []))
  refine own_go (fun _ kk_ => XS.aloadN X7.here hx rfl (hb hby d13_56) rfl rfl kk_) ?_
  show own_G p e below s _ _ _ (T7.setTop (mkF m 57 #[.val (.ref x), .val (.int x1), .val (.int x2)] [(.ref x)]))
  obtain ⟨T8, X8, e8, st8⟩ := getF X7 hx hZ hown (host := "") (Or.inl (hw _ (List.mem_of_getElem? (i := 44) rfl))) Via.refl e7 F7_x_writes (g := (mkF m 57 #[.val (.ref x), .val (.int x1), .val (.int x2)] [(.ref x)])) rfl rfl (hb hby d13_57)
  refine own_go st8 ?_
  show own_G p e below s _ _ _ (T8.setTop (mkF m 60 #[.val (.ref x), .val (.int x1), .val (.int x2)] [(.ref wa)]))
  refine own_go (fun _ kk_ => XS.aloadN X8.here hx rfl (hb hby d13_60) rfl rfl kk_) ?_
  show own_G p e below s _ _ _ (T8.setTop (mkF m 61 #[.val (.ref x), .val (.int x1), .val (.int x2)] [(.ref x), (.ref wa)]))
  obtain ⟨T9, X9, e9, st9⟩ := getF X8 hx hZ hown (host := "") (Or.inl (hw _ (List.mem_of_getElem? (i := 80) rfl))) Via.refl e8 F7_x_touched (g := (mkF m 61 #[.val (.ref x), .val (.int x1), .val (.int x2)] [(.ref x), (.ref wa)])) rfl rfl (hb hby d13_61)
  refine own_go st9 ?_
  show own_G p e below s _ _ _ (T9.setTop (mkF m 64 #[.val (.ref x), .val (.int x1), .val (.int x2)] [(.int (1 : Int32)), (.ref wa)]))
  refine own_go (fun _ kk_ => XS.iloadN X9.here hx rfl (hb hby d13_64) rfl kk_) ?_
  show own_G p e below s _ _ _ (T9.setTop (mkF m 65 #[.val (.ref x), .val (.int x1), .val (.int x2)] [(.int x2), (.int (1 : Int32)), (.ref wa)]))
  have Vc10 := V7_wa
  obtain ⟨cl10, Ar10, q10, S10, M10, H10, G10⟩ := Vc10
  have hin10 := inb_of (j := (1 : Int32)) S10 ⟨(by decide), (by decide)⟩
  obtain ⟨T11, h11, X11, e11, W11, st11⟩ := stZ X9 hx hZ e9 Ar10 (j := (1 : Int32)) hin10 (g := (mkF m 65 #[.val (.ref x), .val (.int x1), .val (.int x2)] [(.int x2), (.int (1 : Int32)), (.ref wa)])) rfl rfl (hb hby d13_65)
  refine own_go st11 ?_
  have K11_ := K7_.wr W11 (Or.inl (List.mem_of_getElem? (i := 2) rfl))
  have E11_x := E7_x.wr W11
  have F11_x_cells := F7_x_cells.other W11 (Or.inl ne2)
  have F11_x_writes := F7_x_writes.other W11 (Or.inl ne2)
  have F11_x_touched := F7_x_touched.other W11 (Or.inl ne2)
  have F11_x_begins := F7_x_begins.other W11 (Or.inl ne2)
  have F11_x_returns := F7_x_returns.other W11 (Or.inl ne2)
  have F11_x_endsRun := F7_x_endsRun.other W11 (Or.inl ne2)
  have V11_ca := V7_ca.other W11 ne3
  have V11_wa : Arv Z h11 wa kw .boolean (2 : Int32) [(.int w0), (.int (nar .boolean x2))] (.int (0 : Int32)) := Arv.set Ar10 q10 S10 M10 H10 G10 (fits_nar_bool _) W11 1 rfl (Nat.le_of_ble_eq_true rfl)
  have Z11 : n0 ≤ h11.size := by rw [W11.size]; exact Z7
  have N11 := Fr.snoc X11 N7 g_wa
  show own_G p e below s _ _ _ (T11.setTop (mkF m 66 #[.val (.ref x), .val (.int x1), .val (.int x2)] []))
  refine own_go (fun _ kk_ => XS.aloadN X11.here hx rfl (hb hby d13_66) rfl rfl kk_) ?_
  show own_G p e below s _ _ _ (T11.setTop (mkF m 67 #[.val (.ref x), .val (.int x1), .val (.int x2)] [(.ref x)]))
  refine own_go (fun _ kk_ => XS.dup X11.here hx rfl (hb hby d13_67) rfl rfl kk_) ?_
  show own_G p e below s _ _ _ (T11.setTop (mkF m 68 #[.val (.ref x), .val (.int x1), .val (.int x2)] [(.ref x), (.ref x)]))
  obtain ⟨T12, X12, e12, st12⟩ := getF X11 hx hZ hown (host := "") (Or.inl (hw _ (List.mem_of_getElem? (i := 80) rfl))) Via.refl e11 F11_x_touched (g := (mkF m 68 #[.val (.ref x), .val (.int x1), .val (.int x2)] [(.ref x), (.ref x)])) rfl rfl (hb hby d13_68)
  refine own_go st12 ?_
  show own_G p e below s _ _ _ (T12.setTop (mkF m 71 #[.val (.ref x), .val (.int x1), .val (.int x2)] [(.int (1 : Int32)), (.ref x)]))
  refine own_go (fun _ kk_ => XS.iconst X12.here hx rfl (hb hby d13_71) kk_) ?_
  show own_G p e below s _ _ _ (T12.setTop (mkF m 72 #[.val (.ref x), .val (.int x1), .val (.int x2)] [(.int (1 : Int32)), (.int (1 : Int32)), (.ref x)]))
  refine own_go (fun _ kk_ => XS.iadd X12.here hx rfl (hb hby d13_72) rfl kk_) ?_
  show own_G p e below s _ _ _ (T12.setTop (mkF m 73 #[.val (.ref x), .val (.int x1), .val (.int x2)] [(.int (2 : Int32)), (.ref x)]))
  obtain ⟨T13, h13, X13, e13, W13, st13⟩ := putF X12 hx hZ hown (host := "") (Or.inl (hw _ (List.mem_of_getElem? (i := 80) rfl))) Via.refl e12 F11_x_touched E11_x (Or.inl (hw _ (List.mem_of_getElem? (i := 81) rfl))) (hw _ (List.mem_of_getElem? (i := 8) rfl)) (ty := .int) (by decide) rfl rfl (g := (mkF m 73 #[.val (.ref x), .val (.int x1), .val (.int x2)] [(.int (2 : Int32)), (.ref x)])) rfl rfl (hb hby d13_73)
  refine own_go st13 ?_
  have K13_ := K11_.wr W13 (Or.inl (List.mem_of_getElem? (i := 0) rfl))
  have E13_x := E11_x.wr W13
  have F13_x_cells := F11_x_cells.other W13 (Or.inr (slot_ne (Or.inl (hw _ (List.mem_of_getElem? (i := 42) rfl))) (Or.inl (hw _ (List.mem_of_getElem? (i := 81) rfl))) (by decide) (t := (.array .int)) (t' := .int) (by decide) (by decide)))
  have F13_x_writes := F11_x_writes.other W13 (Or.inr (slot_ne (Or.inl (hw _ (List.mem_of_getElem? (i := 45) rfl))) (Or.inl (hw _ (List.mem_of_getElem? (i := 81) rfl))) (by decide) (t := (.array .boolean)) (t' := .int) (by decide) (by decide)))
  have F13_x_touched := F11_x_touched.same W13
  have F13_x_begins := F11_x_begins.other W13 (Or.inr (slot_ne (Or.inl (hw _ (List.mem_of_getElem? (i := 77) rfl))) (Or.inl (hw _ (List.mem_of_getElem? (i := 81) rfl))) (by decide) (t := .boolean) (t' := .int) (by decide) (by decide)))
  have F13_x_returns := F11_x_returns.other W13 (Or.inr (slot_ne (Or.inl (hw _ (List.mem_of_getElem? (i := 79) rfl))) (Or.inl (hw _ (List.mem_of_getElem? (i := 81) rfl))) (by decide) (t := .boolean) (t' := .int) (by decide) (by decide)))
  have F13_x_endsRun := F11_x_endsRun.other W13 (Or.inr (slot_ne (Or.inl (hw _ (List.mem_of_getElem? (i := 75) rfl))) (Or.inl (hw _ (List.mem_of_getElem? (i := 81) rfl))) (by decide) (t := .boolean) (t' := .int) (by decide) (by decide)))
  have V13_ca := V11_ca.other W13 (Ne.symm ne1)
  have V13_wa := V11_wa.other W13 (Ne.symm ne2)
  have Z13 : n0 ≤ h13.size := by rw [W13.size]; exact Z11
  have N13 := Fr.snoc X13 N11 g_x
  show own_G p e below s _ _ _ (T13.setTop (mkF m 76 #[.val (.ref x), .val (.int x1), .val (.int x2)] []))
  exact own_ret0 X13 hx Bd.returns (BodyLoose.notSynchronized Bd) (hb hby d13_76) e13 ⟨rfl, N13, Z13, K13_, (by have q := own_nar01 h2; have V := V13_wa; rw [q] at V; exact ⟨⟨E13_x, F13_x_cells, F13_x_writes, F13_x_touched, F13_x_begins, F13_x_returns, F13_x_endsRun⟩, ⟨V13_ca, V⟩, ne1, ne2, ne3⟩)⟩ (by decide) (by decide)
theorem d14_0 : decode prog_47_method_5_code 0 = .ok (.aload_n 0, 1) := by decide +kernel
theorem d14_1 : decode prog_47_method_5_code 1 = .ok (.iconst 1, 1) := by decide +kernel
theorem d14_2 : decode prog_47_method_5_code 2 = .ok (.putfield 48, 3) := by decide +kernel
theorem d14_5 : decode prog_47_method_5_code 5 = .ok (.return_, 1) := by decide +kernel
theorem ef_rm_callBegan (m : MethodId) (x0 : Addr) : entryFrame m #[(.ref x0)] 1 = mkF m 0 #[.val (.ref x0)] [] := by first | (simp [entryFrame, mkF, argsToLocals, Value.category]; done) | rfl
def Q_rm_callBegan (Z : State) (x ca wa : Addr) (kc kw : ClassId) (t c0 c1 w0 w1 b r e_ : Int32) (h0 : Heap) (n0 : Nat) : Option Value → Heap → List Loc → Prop := fun v h L => v = none ∧ Fr n0 L ∧ n0 ≤ h.size ∧ Keep h0 h [x] ∧ own_FP Z h x ca wa kc kw t c0 c1 w0 w1 1 r e_
set_option maxRecDepth 65536 in
set_option maxHeartbeats 40000000 in
theorem rm_callBegan (l : Launch) (Z : State) (a0 : Array Value) (hw : ∀ d ∈ tables_1, d.before a0 Z = true) (ws : List Jvm.Cond) (x ca wa : Addr) (kc kw : ClassId) (t c0 c1 w0 w1 b r e_ : Int32) (h0 : Heap) (n0 : Nat) (Z0 : n0 ≤ h0.size) (FP : own_FP Z h0 x ca wa kc kw t c0 c1 w0 w1 b r e_) (g_x : n0 ≤ x) :
    MetFree l (⟨"com/example/relyguard/relyguard/Footprint", "callBegan", "()V"⟩ : MethodName) (head1 (Jvm.Cond.code (⟨"com/example/relyguard/relyguard/Footprint", "callBegan", "()V"⟩ : MethodName) prog_47_method_5_code 1 none :: ws) ({ frames := 0, cells := 0, slots := 0, locals := 0 } : Room)) (fun as_ U => as_ = #[(.ref x)] ∧ Z.Warmed39 U.vm ∧ U.heap = h0) (fun _ _ _ _ _ => True) (fun _ U o U' => ∃ v L, o = .returned v ∧ (Q_rm_callBegan Z x ca wa kc kw t c0 c1 w0 w1 b r e_ h0 n0) v U'.heap L ∧ FrameEnd U o U' L ({ frames := 0, cells := 0, slots := 0, locals := 0 } : Room).cells ({ frames := 0, cells := 0, slots := 0, locals := 0 } : Room).slots) := by
  refine MetFree.of_bodySF (plainFor_of_name pn_2) hisR ?_
  intro p e s m args below meth c s₁ Bd hml0 hP hK
  obtain ⟨rfl, hZ, hh⟩ := hP
  have hx := Bd.exec
  have hby := Bd.bytes
  have hml : c.maxLocals = 1 := hml0
  have hown : s.vm.findClass "com/example/relyguard/relyguard/Footprint" = some m.cls := findClass_of_methodNamed Bd.named
  have hnm := (name_of_methodNamed Bd.named Bd.method).1
  have X0 : Stand p l e ({ frames := 0, cells := 0, slots := 0, locals := 0 } : Room) s m #[(.ref x)] below meth c s₁ [] 0 0 := Stand.of_body Bd
  have e0 : s₁.heap = h0 := by rw [← hh, Bd.state]; rfl
  have N0 := Fr.nil n0
  show own_G p e below s (Q_rm_callBegan Z x ca wa kc kw t c0 c1 w0 w1 b r e_ h0 n0) ({ frames := 0, cells := 0, slots := 0, locals := 0 } : Room).cells ({ frames := 0, cells := 0, slots := 0, locals := 0 } : Room).slots (s₁.setTop (entryFrame m #[(.ref x)] 1))
  rw [ef_rm_callBegan m x]
  have K0 : Keep h0 h0 [x] := Keep.refl _ _
  obtain ⟨⟨E_x, F_cells, F_writes, F_touched, F_begins, F_returns, F_endsRun⟩, ⟨V_c, V_w⟩, ne1, ne2, ne3⟩ := FP
  show own_G p e below s _ _ _ (s₁.setTop (mkF m 0 #[.val (.ref x)] []))
  refine own_go (fun _ kk_ => XS.aloadN X0.here hx rfl (hb hby d14_0) rfl rfl kk_) ?_
  show own_G p e below s _ _ _ (s₁.setTop (mkF m 1 #[.val (.ref x)] [(.ref x)]))
  refine own_go (fun _ kk_ => XS.iconst X0.here hx rfl (hb hby d14_1) kk_) ?_
  show own_G p e below s _ _ _ (s₁.setTop (mkF m 2 #[.val (.ref x)] [(.int (1 : Int32)), (.ref x)]))
  obtain ⟨T1, h1, X1, e1, W1, st1⟩ := putFN X0 hx hZ hown (hw _ (List.mem_of_getElem? (i := 76) rfl)) Via.refl e0 F_begins E_x (Or.inl (hw _ (List.mem_of_getElem? (i := 77) rfl))) (hw _ (List.mem_of_getElem? (i := 8) rfl)) (ty := .boolean) (v := (.int (1 : Int32))) (v' := (.int (nar .boolean (1 : Int32)))) (by decide) rfl (fits_nar_bool _) (g := (mkF m 2 #[.val (.ref x)] [(.int (1 : Int32)), (.ref x)])) rfl rfl (hb hby d14_2)
  refine own_go st1 ?_
  have K1_ := K0.wr W1 (Or.inl (List.mem_of_getElem? (i := 0) rfl))
  have E1_x := E_x.wr W1
  have F1_x_cells := F_cells.other W1 (Or.inr (slot_ne (Or.inl (hw _ (List.mem_of_getElem? (i := 42) rfl))) (Or.inl (hw _ (List.mem_of_getElem? (i := 77) rfl))) (by decide) (t := (.array .int)) (t' := .boolean) (by decide) (by decide)))
  have F1_x_writes := F_writes.other W1 (Or.inr (slot_ne (Or.inl (hw _ (List.mem_of_getElem? (i := 45) rfl))) (Or.inl (hw _ (List.mem_of_getElem? (i := 77) rfl))) (by decide) (t := (.array .boolean)) (t' := .boolean) (by decide) (by decide)))
  have F1_x_touched := F_touched.other W1 (Or.inr (slot_ne (Or.inl (hw _ (List.mem_of_getElem? (i := 81) rfl))) (Or.inl (hw _ (List.mem_of_getElem? (i := 77) rfl))) (by decide) (t := .int) (t' := .boolean) (by decide) (by decide)))
  have F1_x_begins := F_begins.same W1
  have F1_x_returns := F_returns.other W1 (Or.inr (slot_ne (Or.inl (hw _ (List.mem_of_getElem? (i := 79) rfl))) (Or.inl (hw _ (List.mem_of_getElem? (i := 77) rfl))) (by decide) (t := .boolean) (t' := .boolean) (by decide) (by decide)))
  have F1_x_endsRun := F_endsRun.other W1 (Or.inr (slot_ne (Or.inl (hw _ (List.mem_of_getElem? (i := 75) rfl))) (Or.inl (hw _ (List.mem_of_getElem? (i := 77) rfl))) (by decide) (t := .boolean) (t' := .boolean) (by decide) (by decide)))
  have V1_ca := V_c.other W1 (Ne.symm ne1)
  have V1_wa := V_w.other W1 (Ne.symm ne2)
  have Z1 : n0 ≤ h1.size := by rw [W1.size]; exact Z0
  have N1 := Fr.snoc X1 N0 g_x
  show own_G p e below s _ _ _ (T1.setTop (mkF m 5 #[.val (.ref x)] []))
  exact own_ret0 X1 hx Bd.returns (BodyLoose.notSynchronized Bd) (hb hby d14_5) e1 ⟨rfl, N1, Z1, K1_, ⟨⟨E1_x, F1_x_cells, F1_x_writes, F1_x_touched, F1_x_begins, F1_x_returns, F1_x_endsRun⟩, ⟨V1_ca, V1_wa⟩, ne1, ne2, ne3⟩⟩ (by decide) (by decide)
theorem d16_0 : decode prog_47_method_6_code 0 = .ok (.aload_n 0, 1) := by decide +kernel
theorem d16_1 : decode prog_47_method_6_code 1 = .ok (.iconst 1, 1) := by decide +kernel
theorem d16_2 : decode prog_47_method_6_code 2 = .ok (.putfield 51, 3) := by decide +kernel
theorem d16_5 : decode prog_47_method_6_code 5 = .ok (.return_, 1) := by decide +kernel
theorem ef_rm_callReturned (m : MethodId) (x0 : Addr) : entryFrame m #[(.ref x0)] 1 = mkF m 0 #[.val (.ref x0)] [] := by first | (simp [entryFrame, mkF, argsToLocals, Value.category]; done) | rfl
def Q_rm_callReturned (Z : State) (x ca wa : Addr) (kc kw : ClassId) (t c0 c1 w0 w1 b r e_ : Int32) (h0 : Heap) (n0 : Nat) : Option Value → Heap → List Loc → Prop := fun v h L => v = none ∧ Fr n0 L ∧ n0 ≤ h.size ∧ Keep h0 h [x] ∧ own_FP Z h x ca wa kc kw t c0 c1 w0 w1 b 1 e_
set_option maxRecDepth 65536 in
set_option maxHeartbeats 40000000 in
theorem rm_callReturned (l : Launch) (Z : State) (a0 : Array Value) (hw : ∀ d ∈ tables_1, d.before a0 Z = true) (ws : List Jvm.Cond) (x ca wa : Addr) (kc kw : ClassId) (t c0 c1 w0 w1 b r e_ : Int32) (h0 : Heap) (n0 : Nat) (Z0 : n0 ≤ h0.size) (FP : own_FP Z h0 x ca wa kc kw t c0 c1 w0 w1 b r e_) (g_x : n0 ≤ x) :
    MetFree l (⟨"com/example/relyguard/relyguard/Footprint", "callReturned", "()V"⟩ : MethodName) (head1 (Jvm.Cond.code (⟨"com/example/relyguard/relyguard/Footprint", "callReturned", "()V"⟩ : MethodName) prog_47_method_6_code 1 none :: ws) ({ frames := 0, cells := 0, slots := 0, locals := 0 } : Room)) (fun as_ U => as_ = #[(.ref x)] ∧ Z.Warmed39 U.vm ∧ U.heap = h0) (fun _ _ _ _ _ => True) (fun _ U o U' => ∃ v L, o = .returned v ∧ (Q_rm_callReturned Z x ca wa kc kw t c0 c1 w0 w1 b r e_ h0 n0) v U'.heap L ∧ FrameEnd U o U' L ({ frames := 0, cells := 0, slots := 0, locals := 0 } : Room).cells ({ frames := 0, cells := 0, slots := 0, locals := 0 } : Room).slots) := by
  refine MetFree.of_bodySF (plainFor_of_name pn_2) hisR ?_
  intro p e s m args below meth c s₁ Bd hml0 hP hK
  obtain ⟨rfl, hZ, hh⟩ := hP
  have hx := Bd.exec
  have hby := Bd.bytes
  have hml : c.maxLocals = 1 := hml0
  have hown : s.vm.findClass "com/example/relyguard/relyguard/Footprint" = some m.cls := findClass_of_methodNamed Bd.named
  have hnm := (name_of_methodNamed Bd.named Bd.method).1
  have X0 : Stand p l e ({ frames := 0, cells := 0, slots := 0, locals := 0 } : Room) s m #[(.ref x)] below meth c s₁ [] 0 0 := Stand.of_body Bd
  have e0 : s₁.heap = h0 := by rw [← hh, Bd.state]; rfl
  have N0 := Fr.nil n0
  show own_G p e below s (Q_rm_callReturned Z x ca wa kc kw t c0 c1 w0 w1 b r e_ h0 n0) ({ frames := 0, cells := 0, slots := 0, locals := 0 } : Room).cells ({ frames := 0, cells := 0, slots := 0, locals := 0 } : Room).slots (s₁.setTop (entryFrame m #[(.ref x)] 1))
  rw [ef_rm_callReturned m x]
  have K0 : Keep h0 h0 [x] := Keep.refl _ _
  obtain ⟨⟨E_x, F_cells, F_writes, F_touched, F_begins, F_returns, F_endsRun⟩, ⟨V_c, V_w⟩, ne1, ne2, ne3⟩ := FP
  show own_G p e below s _ _ _ (s₁.setTop (mkF m 0 #[.val (.ref x)] []))
  refine own_go (fun _ kk_ => XS.aloadN X0.here hx rfl (hb hby d16_0) rfl rfl kk_) ?_
  show own_G p e below s _ _ _ (s₁.setTop (mkF m 1 #[.val (.ref x)] [(.ref x)]))
  refine own_go (fun _ kk_ => XS.iconst X0.here hx rfl (hb hby d16_1) kk_) ?_
  show own_G p e below s _ _ _ (s₁.setTop (mkF m 2 #[.val (.ref x)] [(.int (1 : Int32)), (.ref x)]))
  obtain ⟨T1, h1, X1, e1, W1, st1⟩ := putFN X0 hx hZ hown (hw _ (List.mem_of_getElem? (i := 78) rfl)) Via.refl e0 F_returns E_x (Or.inl (hw _ (List.mem_of_getElem? (i := 79) rfl))) (hw _ (List.mem_of_getElem? (i := 8) rfl)) (ty := .boolean) (v := (.int (1 : Int32))) (v' := (.int (nar .boolean (1 : Int32)))) (by decide) rfl (fits_nar_bool _) (g := (mkF m 2 #[.val (.ref x)] [(.int (1 : Int32)), (.ref x)])) rfl rfl (hb hby d16_2)
  refine own_go st1 ?_
  have K1_ := K0.wr W1 (Or.inl (List.mem_of_getElem? (i := 0) rfl))
  have E1_x := E_x.wr W1
  have F1_x_cells := F_cells.other W1 (Or.inr (slot_ne (Or.inl (hw _ (List.mem_of_getElem? (i := 42) rfl))) (Or.inl (hw _ (List.mem_of_getElem? (i := 79) rfl))) (by decide) (t := (.array .int)) (t' := .boolean) (by decide) (by decide)))
  have F1_x_writes := F_writes.other W1 (Or.inr (slot_ne (Or.inl (hw _ (List.mem_of_getElem? (i := 45) rfl))) (Or.inl (hw _ (List.mem_of_getElem? (i := 79) rfl))) (by decide) (t := (.array .boolean)) (t' := .boolean) (by decide) (by decide)))
  have F1_x_touched := F_touched.other W1 (Or.inr (slot_ne (Or.inl (hw _ (List.mem_of_getElem? (i := 81) rfl))) (Or.inl (hw _ (List.mem_of_getElem? (i := 79) rfl))) (by decide) (t := .int) (t' := .boolean) (by decide) (by decide)))
  have F1_x_begins := F_begins.other W1 (Or.inr (slot_ne (Or.inl (hw _ (List.mem_of_getElem? (i := 77) rfl))) (Or.inl (hw _ (List.mem_of_getElem? (i := 79) rfl))) (by decide) (t := .boolean) (t' := .boolean) (by decide) (by decide)))
  have F1_x_returns := F_returns.same W1
  have F1_x_endsRun := F_endsRun.other W1 (Or.inr (slot_ne (Or.inl (hw _ (List.mem_of_getElem? (i := 75) rfl))) (Or.inl (hw _ (List.mem_of_getElem? (i := 79) rfl))) (by decide) (t := .boolean) (t' := .boolean) (by decide) (by decide)))
  have V1_ca := V_c.other W1 (Ne.symm ne1)
  have V1_wa := V_w.other W1 (Ne.symm ne2)
  have Z1 : n0 ≤ h1.size := by rw [W1.size]; exact Z0
  have N1 := Fr.snoc X1 N0 g_x
  show own_G p e below s _ _ _ (T1.setTop (mkF m 5 #[.val (.ref x)] []))
  exact own_ret0 X1 hx Bd.returns (BodyLoose.notSynchronized Bd) (hb hby d16_5) e1 ⟨rfl, N1, Z1, K1_, ⟨⟨E1_x, F1_x_cells, F1_x_writes, F1_x_touched, F1_x_begins, F1_x_returns, F1_x_endsRun⟩, ⟨V1_ca, V1_wa⟩, ne1, ne2, ne3⟩⟩ (by decide) (by decide)
theorem d15_0 : decode prog_47_method_8_code 0 = .ok (.aload_n 0, 1) := by decide +kernel
theorem d15_1 : decode prog_47_method_8_code 1 = .ok (.iconst 1, 1) := by decide +kernel
theorem d15_2 : decode prog_47_method_8_code 2 = .ok (.putfield 54, 3) := by decide +kernel
theorem d15_5 : decode prog_47_method_8_code 5 = .ok (.return_, 1) := by decide +kernel
theorem ef_rm_endsRun (m : MethodId) (x0 : Addr) : entryFrame m #[(.ref x0)] 1 = mkF m 0 #[.val (.ref x0)] [] := by first | (simp [entryFrame, mkF, argsToLocals, Value.category]; done) | rfl
def Q_rm_endsRun (Z : State) (x ca wa : Addr) (kc kw : ClassId) (t c0 c1 w0 w1 b r e_ : Int32) (h0 : Heap) (n0 : Nat) : Option Value → Heap → List Loc → Prop := fun v h L => v = none ∧ Fr n0 L ∧ n0 ≤ h.size ∧ Keep h0 h [x] ∧ own_FP Z h x ca wa kc kw t c0 c1 w0 w1 b r 1
set_option maxRecDepth 65536 in
set_option maxHeartbeats 40000000 in
theorem rm_endsRun (l : Launch) (Z : State) (a0 : Array Value) (hw : ∀ d ∈ tables_1, d.before a0 Z = true) (ws : List Jvm.Cond) (x ca wa : Addr) (kc kw : ClassId) (t c0 c1 w0 w1 b r e_ : Int32) (h0 : Heap) (n0 : Nat) (Z0 : n0 ≤ h0.size) (FP : own_FP Z h0 x ca wa kc kw t c0 c1 w0 w1 b r e_) (g_x : n0 ≤ x) :
    MetFree l (⟨"com/example/relyguard/relyguard/Footprint", "endsRun", "()V"⟩ : MethodName) (head1 (Jvm.Cond.code (⟨"com/example/relyguard/relyguard/Footprint", "endsRun", "()V"⟩ : MethodName) prog_47_method_8_code 1 none :: ws) ({ frames := 0, cells := 0, slots := 0, locals := 0 } : Room)) (fun as_ U => as_ = #[(.ref x)] ∧ Z.Warmed39 U.vm ∧ U.heap = h0) (fun _ _ _ _ _ => True) (fun _ U o U' => ∃ v L, o = .returned v ∧ (Q_rm_endsRun Z x ca wa kc kw t c0 c1 w0 w1 b r e_ h0 n0) v U'.heap L ∧ FrameEnd U o U' L ({ frames := 0, cells := 0, slots := 0, locals := 0 } : Room).cells ({ frames := 0, cells := 0, slots := 0, locals := 0 } : Room).slots) := by
  refine MetFree.of_bodySF (plainFor_of_name pn_2) hisR ?_
  intro p e s m args below meth c s₁ Bd hml0 hP hK
  obtain ⟨rfl, hZ, hh⟩ := hP
  have hx := Bd.exec
  have hby := Bd.bytes
  have hml : c.maxLocals = 1 := hml0
  have hown : s.vm.findClass "com/example/relyguard/relyguard/Footprint" = some m.cls := findClass_of_methodNamed Bd.named
  have hnm := (name_of_methodNamed Bd.named Bd.method).1
  have X0 : Stand p l e ({ frames := 0, cells := 0, slots := 0, locals := 0 } : Room) s m #[(.ref x)] below meth c s₁ [] 0 0 := Stand.of_body Bd
  have e0 : s₁.heap = h0 := by rw [← hh, Bd.state]; rfl
  have N0 := Fr.nil n0
  show own_G p e below s (Q_rm_endsRun Z x ca wa kc kw t c0 c1 w0 w1 b r e_ h0 n0) ({ frames := 0, cells := 0, slots := 0, locals := 0 } : Room).cells ({ frames := 0, cells := 0, slots := 0, locals := 0 } : Room).slots (s₁.setTop (entryFrame m #[(.ref x)] 1))
  rw [ef_rm_endsRun m x]
  have K0 : Keep h0 h0 [x] := Keep.refl _ _
  obtain ⟨⟨E_x, F_cells, F_writes, F_touched, F_begins, F_returns, F_endsRun⟩, ⟨V_c, V_w⟩, ne1, ne2, ne3⟩ := FP
  show own_G p e below s _ _ _ (s₁.setTop (mkF m 0 #[.val (.ref x)] []))
  refine own_go (fun _ kk_ => XS.aloadN X0.here hx rfl (hb hby d15_0) rfl rfl kk_) ?_
  show own_G p e below s _ _ _ (s₁.setTop (mkF m 1 #[.val (.ref x)] [(.ref x)]))
  refine own_go (fun _ kk_ => XS.iconst X0.here hx rfl (hb hby d15_1) kk_) ?_
  show own_G p e below s _ _ _ (s₁.setTop (mkF m 2 #[.val (.ref x)] [(.int (1 : Int32)), (.ref x)]))
  obtain ⟨T1, h1, X1, e1, W1, st1⟩ := putFN X0 hx hZ hown (hw _ (List.mem_of_getElem? (i := 74) rfl)) Via.refl e0 F_endsRun E_x (Or.inl (hw _ (List.mem_of_getElem? (i := 75) rfl))) (hw _ (List.mem_of_getElem? (i := 8) rfl)) (ty := .boolean) (v := (.int (1 : Int32))) (v' := (.int (nar .boolean (1 : Int32)))) (by decide) rfl (fits_nar_bool _) (g := (mkF m 2 #[.val (.ref x)] [(.int (1 : Int32)), (.ref x)])) rfl rfl (hb hby d15_2)
  refine own_go st1 ?_
  have K1_ := K0.wr W1 (Or.inl (List.mem_of_getElem? (i := 0) rfl))
  have E1_x := E_x.wr W1
  have F1_x_cells := F_cells.other W1 (Or.inr (slot_ne (Or.inl (hw _ (List.mem_of_getElem? (i := 42) rfl))) (Or.inl (hw _ (List.mem_of_getElem? (i := 75) rfl))) (by decide) (t := (.array .int)) (t' := .boolean) (by decide) (by decide)))
  have F1_x_writes := F_writes.other W1 (Or.inr (slot_ne (Or.inl (hw _ (List.mem_of_getElem? (i := 45) rfl))) (Or.inl (hw _ (List.mem_of_getElem? (i := 75) rfl))) (by decide) (t := (.array .boolean)) (t' := .boolean) (by decide) (by decide)))
  have F1_x_touched := F_touched.other W1 (Or.inr (slot_ne (Or.inl (hw _ (List.mem_of_getElem? (i := 81) rfl))) (Or.inl (hw _ (List.mem_of_getElem? (i := 75) rfl))) (by decide) (t := .int) (t' := .boolean) (by decide) (by decide)))
  have F1_x_begins := F_begins.other W1 (Or.inr (slot_ne (Or.inl (hw _ (List.mem_of_getElem? (i := 77) rfl))) (Or.inl (hw _ (List.mem_of_getElem? (i := 75) rfl))) (by decide) (t := .boolean) (t' := .boolean) (by decide) (by decide)))
  have F1_x_returns := F_returns.other W1 (Or.inr (slot_ne (Or.inl (hw _ (List.mem_of_getElem? (i := 79) rfl))) (Or.inl (hw _ (List.mem_of_getElem? (i := 75) rfl))) (by decide) (t := .boolean) (t' := .boolean) (by decide) (by decide)))
  have F1_x_endsRun := F_endsRun.same W1
  have V1_ca := V_c.other W1 (Ne.symm ne1)
  have V1_wa := V_w.other W1 (Ne.symm ne2)
  have Z1 : n0 ≤ h1.size := by rw [W1.size]; exact Z0
  have N1 := Fr.snoc X1 N0 g_x
  show own_G p e below s _ _ _ (T1.setTop (mkF m 5 #[.val (.ref x)] []))
  exact own_ret0 X1 hx Bd.returns (BodyLoose.notSynchronized Bd) (hb hby d15_5) e1 ⟨rfl, N1, Z1, K1_, ⟨⟨E1_x, F1_x_cells, F1_x_writes, F1_x_touched, F1_x_begins, F1_x_returns, F1_x_endsRun⟩, ⟨V1_ca, V1_wa⟩, ne1, ne2, ne3⟩⟩ (by decide) (by decide)
theorem d12_0 : decode prog_47_method_13_code 0 = .ok (.aload_n 0, 1) := by decide +kernel
theorem d12_1 : decode prog_47_method_13_code 1 = .ok (.getfield 54, 3) := by decide +kernel
theorem d12_4 : decode prog_47_method_13_code 4 = .ok (.ifCond .ne 38, 3) := by decide +kernel
theorem d12_7 : decode prog_47_method_13_code 7 = .ok (.aload_n 1, 1) := by decide +kernel
theorem d12_8 : decode prog_47_method_13_code 8 = .ok (.getfield 54, 3) := by decide +kernel
theorem d12_11 : decode prog_47_method_13_code 11 = .ok (.ifCond .ne 31, 3) := by decide +kernel
theorem d12_14 : decode prog_47_method_13_code 14 = .ok (.aload_n 0, 1) := by decide +kernel
theorem d12_15 : decode prog_47_method_13_code 15 = .ok (.getfield 48, 3) := by decide +kernel
theorem d12_18 : decode prog_47_method_13_code 18 = .ok (.ifCond .eq 10, 3) := by decide +kernel
theorem d12_21 : decode prog_47_method_13_code 21 = .ok (.aload_n 1, 1) := by decide +kernel
theorem d12_22 : decode prog_47_method_13_code 22 = .ok (.getfield 51, 3) := by decide +kernel
theorem d12_25 : decode prog_47_method_13_code 25 = .ok (.ifCond .ne 17, 3) := by decide +kernel
theorem d12_28 : decode prog_47_method_13_code 28 = .ok (.aload_n 0, 1) := by decide +kernel
theorem d12_29 : decode prog_47_method_13_code 29 = .ok (.getfield 51, 3) := by decide +kernel
theorem d12_32 : decode prog_47_method_13_code 32 = .ok (.ifCond .eq 12, 3) := by decide +kernel
theorem d12_35 : decode prog_47_method_13_code 35 = .ok (.aload_n 1, 1) := by decide +kernel
theorem d12_36 : decode prog_47_method_13_code 36 = .ok (.getfield 48, 3) := by decide +kernel
theorem d12_39 : decode prog_47_method_13_code 39 = .ok (.ifCond .eq 5, 3) := by decide +kernel
theorem d12_42 : decode prog_47_method_13_code 42 = .ok (.iconst 1, 1) := by decide +kernel
theorem d12_43 : decode prog_47_method_13_code 43 = .ok (.ireturn, 1) := by decide +kernel
theorem d12_44 : decode prog_47_method_13_code 44 = .ok (.iconst 0, 1) := by decide +kernel
theorem d12_45 : decode prog_47_method_13_code 45 = .ok (.istore_n 2, 1) := by decide +kernel
theorem d12_46 : decode prog_47_method_13_code 46 = .ok (.iload_n 2, 1) := by decide +kernel
theorem d12_47 : decode prog_47_method_13_code 47 = .ok (.aload_n 0, 1) := by decide +kernel
theorem d12_48 : decode prog_47_method_13_code 48 = .ok (.getfield 32, 3) := by decide +kernel
theorem d12_51 : decode prog_47_method_13_code 51 = .ok (.if_icmp .ge 60, 3) := by decide +kernel
theorem d12_111 : decode prog_47_method_13_code 111 = .ok (.iconst 0, 1) := by decide +kernel
theorem d12_112 : decode prog_47_method_13_code 112 = .ok (.ireturn, 1) := by decide +kernel
theorem ef_rmDp00 (m : MethodId) (x0 : Addr) (x1 : Addr) : entryFrame m #[(.ref x0), (.ref x1)] 4 = mkF m 0 #[.val (.ref x0), .val (.ref x1), .unset, .unset] [] := by first | (simp [entryFrame, mkF, argsToLocals, Value.category]; done) | rfl
def Q_rmDp00 (Z : State) (x ca wa y da va : Addr) (kc kw kd kv : ClassId) (c0 c1 w0 w1 b1 r1 y1 d0 d1 v0 v1 b2 r2 y2 : Int32) (h0 : Heap) (n0 : Nat) : Option Value → Heap → List Loc → Prop := fun v h L => ∃ B : Int32, v = some (.int B) ∧ Fr n0 L ∧ h = h0 ∧ ((B = 1 ∧ (own_D y1 y2 b1 r1 b2 r2 (own_C 0 0 c0 c1 w0 w1 d0 d1 v0 v1))) ∨ (B = 0 ∧ ¬ (own_D y1 y2 b1 r1 b2 r2 (own_C 0 0 c0 c1 w0 w1 d0 d1 v0 v1))))
set_option maxRecDepth 65536 in
set_option maxHeartbeats 40000000 in
theorem rmDp00 (l : Launch) (Z : State) (a0 : Array Value) (hw : ∀ d ∈ tables_1, d.before a0 Z = true) (ws : List Jvm.Cond) (x ca wa y da va : Addr) (kc kw kd kv : ClassId) (c0 c1 w0 w1 b1 r1 y1 d0 d1 v0 v1 b2 r2 y2 : Int32) (h0 : Heap) (n0 : Nat) (Z0 : n0 ≤ h0.size) (FP : own_FP Z h0 x ca wa kc kw 0 c0 c1 w0 w1 b1 r1 y1) (FQ : own_FP Z h0 y da va kd kv 0 d0 d1 v0 v1 b2 r2 y2) :
    MetFree l (⟨"com/example/relyguard/relyguard/Footprint", "dependsOn", "(Lcom/example/relyguard/relyguard/Footprint;)Z"⟩ : MethodName) (head1 (Jvm.Cond.code (⟨"com/example/relyguard/relyguard/Footprint", "dependsOn", "(Lcom/example/relyguard/relyguard/Footprint;)Z"⟩ : MethodName) prog_47_method_13_code 4 (some .boolean) :: ws) ({ frames := 0, cells := 0, slots := 0, locals := 0 } : Room)) (fun as_ U => as_ = #[(.ref x), (.ref y)] ∧ Z.Warmed39 U.vm ∧ U.heap = h0) (fun _ _ _ _ _ => True) (fun _ U o U' => ∃ v L, o = .returned v ∧ (Q_rmDp00 Z x ca wa y da va kc kw kd kv c0 c1 w0 w1 b1 r1 y1 d0 d1 v0 v1 b2 r2 y2 h0 n0) v U'.heap L ∧ FrameEnd U o U' L ({ frames := 0, cells := 0, slots := 0, locals := 0 } : Room).cells ({ frames := 0, cells := 0, slots := 0, locals := 0 } : Room).slots) := by
  refine MetFree.of_bodySF (plainFor_of_name pn_2) hisR ?_
  intro p e s m args below meth c s₁ Bd hml0 hP hK
  obtain ⟨rfl, hZ, hh⟩ := hP
  have hx := Bd.exec
  have hby := Bd.bytes
  have hml : c.maxLocals = 4 := hml0
  have hown : s.vm.findClass "com/example/relyguard/relyguard/Footprint" = some m.cls := findClass_of_methodNamed Bd.named
  have hnm := (name_of_methodNamed Bd.named Bd.method).1
  have X0 : Stand p l e ({ frames := 0, cells := 0, slots := 0, locals := 0 } : Room) s m #[(.ref x), (.ref y)] below meth c s₁ [] 0 0 := Stand.of_body Bd
  have e0 : s₁.heap = h0 := by rw [← hh, Bd.state]; rfl
  have N0 := Fr.nil n0
  show own_G p e below s (Q_rmDp00 Z x ca wa y da va kc kw kd kv c0 c1 w0 w1 b1 r1 y1 d0 d1 v0 v1 b2 r2 y2 h0 n0) ({ frames := 0, cells := 0, slots := 0, locals := 0 } : Room).cells ({ frames := 0, cells := 0, slots := 0, locals := 0 } : Room).slots (s₁.setTop (entryFrame m #[(.ref x), (.ref y)] 4))
  rw [ef_rmDp00 m x y]
  obtain ⟨⟨E_x, F_cells, F_writes, F_touched, F_begins, F_returns, F_endsRun⟩, ⟨V_c, V_w⟩, ne1, ne2, ne3⟩ := FP
  obtain ⟨⟨E_x', F_cells', F_writes', F_touched', F_begins', F_returns', F_endsRun'⟩, ⟨V_c', V_w'⟩, ne1', ne2', ne3'⟩ := FQ
  show own_G p e below s _ _ _ (s₁.setTop (mkF m 0 #[.val (.ref x), .val (.ref y), .unset, .unset] []))
  refine own_go (fun _ kk_ => XS.aloadN X0.here hx rfl (hb hby d12_0) rfl rfl kk_) ?_
  show own_G p e below s _ _ _ (s₁.setTop (mkF m 1 #[.val (.ref x), .val (.ref y), .unset, .unset] [(.ref x)]))
  obtain ⟨T1, X1, e1, st1⟩ := getF X0 hx hZ hown (host := "") (Or.inl (hw _ (List.mem_of_getElem? (i := 74) rfl))) Via.refl e0 F_endsRun (g := (mkF m 1 #[.val (.ref x), .val (.ref y), .unset, .unset] [(.ref x)])) rfl rfl (hb hby d12_1)
  refine own_go st1 ?_
  show own_G p e below s _ _ _ (T1.setTop (mkF m 4 #[.val (.ref x), .val (.ref y), .unset, .unset] [(.int y1)]))
  refine own_if_ne X1 hx (pc := 4) (pc' := 42) (hb hby d12_4) (by decide) (by decide) (fun hc4 => ?_) (fun hc4 => ?_)
  · show own_G p e below s _ _ _ (T1.setTop (mkF m 42 #[.val (.ref x), .val (.ref y), .unset, .unset] []))
    refine own_go (fun _ kk_ => XS.iconst X1.here hx rfl (hb hby d12_42) kk_) ?_
    show own_G p e below s _ _ _ (T1.setTop (mkF m 43 #[.val (.ref x), .val (.ref y), .unset, .unset] [(.int (1 : Int32))]))
    exact own_retN (t := .boolean) (ht := by simp) X1 hx Bd.returns (BodyLoose.notSynchronized Bd) (hb hby d12_43) e1 ⟨_, rfl, N0, rfl, Or.inl ⟨rfl, Or.inl hc4⟩⟩ (by decide) (by decide)
  · show own_G p e below s _ _ _ (T1.setTop (mkF m 7 #[.val (.ref x), .val (.ref y), .unset, .unset] []))
    refine own_go (fun _ kk_ => XS.aloadN X1.here hx rfl (hb hby d12_7) rfl rfl kk_) ?_
    show own_G p e below s _ _ _ (T1.setTop (mkF m 8 #[.val (.ref x), .val (.ref y), .unset, .unset] [(.ref y)]))
    obtain ⟨T2, X2, e2, st2⟩ := getF X1 hx hZ hown (host := "") (Or.inl (hw _ (List.mem_of_getElem? (i := 74) rfl))) Via.refl e1 F_endsRun' (g := (mkF m 8 #[.val (.ref x), .val (.ref y), .unset, .unset] [(.ref y)])) rfl rfl (hb hby d12_8)
    refine own_go st2 ?_
    show own_G p e below s _ _ _ (T2.setTop (mkF m 11 #[.val (.ref x), .val (.ref y), .unset, .unset] [(.int y2)]))
    refine own_if_ne X2 hx (pc := 11) (pc' := 42) (hb hby d12_11) (by decide) (by decide) (fun hc11 => ?_) (fun hc11 => ?_)
    · show own_G p e below s _ _ _ (T2.setTop (mkF m 42 #[.val (.ref x), .val (.ref y), .unset, .unset] []))
      refine own_go (fun _ kk_ => XS.iconst X2.here hx rfl (hb hby d12_42) kk_) ?_
      show own_G p e below s _ _ _ (T2.setTop (mkF m 43 #[.val (.ref x), .val (.ref y), .unset, .unset] [(.int (1 : Int32))]))
      exact own_retN (t := .boolean) (ht := by simp) X2 hx Bd.returns (BodyLoose.notSynchronized Bd) (hb hby d12_43) e2 ⟨_, rfl, N0, rfl, Or.inl ⟨rfl, Or.inr (Or.inl hc11)⟩⟩ (by decide) (by decide)
    · suffices J3 : ∀ (T3 : State) (lo3 : List Loc), Stand p l e ({ frames := 0, cells := 0, slots := 0, locals := 0 } : Room) s m #[(.ref x), (.ref y)] below meth c T3 lo3 0 0 → Fr n0 lo3 → T3.heap = h0 → (¬ (¬ b1 = 0 ∧ ¬ r2 = 0)) → own_G p e below s (Q_rmDp00 Z x ca wa y da va kc kw kd kv c0 c1 w0 w1 b1 r1 y1 d0 d1 v0 v1 b2 r2 y2 h0 n0) ({ frames := 0, cells := 0, slots := 0, locals := 0 } : Room).cells ({ frames := 0, cells := 0, slots := 0, locals := 0 } : Room).slots (T3.setTop (mkF m 28 #[.val (.ref x), .val (.ref y), .unset, .unset] [])) by
        show own_G p e below s _ _ _ (T2.setTop (mkF m 14 #[.val (.ref x), .val (.ref y), .unset, .unset] []))
        refine own_go (fun _ kk_ => XS.aloadN X2.here hx rfl (hb hby d12_14) rfl rfl kk_) ?_
        show own_G p e below s _ _ _ (T2.setTop (mkF m 15 #[.val (.ref x), .val (.ref y), .unset, .unset] [(.ref x)]))
        obtain ⟨T4, X4, e4, st4⟩ := getF X2 hx hZ hown (host := "") (Or.inl (hw _ (List.mem_of_getElem? (i := 76) rfl))) Via.refl e2 F_begins (g := (mkF m 15 #[.val (.ref x), .val (.ref y), .unset, .unset] [(.ref x)])) rfl rfl (hb hby d12_15)
        refine own_go st4 ?_
        show own_G p e below s _ _ _ (T4.setTop (mkF m 18 #[.val (.ref x), .val (.ref y), .unset, .unset] [(.int b1)]))
        refine own_if_eq X4 hx (pc := 18) (pc' := 28) (hb hby d12_18) (by decide) (by decide) (fun hc18 => ?_) (fun hc18 => ?_)
        · exact J3 _ _ (X4.more (by decide) (by decide)) N0 e4 (fun q => q.1 hc18)
        · show own_G p e below s _ _ _ (T4.setTop (mkF m 21 #[.val (.ref x), .val (.ref y), .unset, .unset] []))
          refine own_go (fun _ kk_ => XS.aloadN X4.here hx rfl (hb hby d12_21) rfl rfl kk_) ?_
          show own_G p e below s _ _ _ (T4.setTop (mkF m 22 #[.val (.ref x), .val (.ref y), .unset, .unset] [(.ref y)]))
          obtain ⟨T5, X5, e5, st5⟩ := getF X4 hx hZ hown (host := "") (Or.inl (hw _ (List.mem_of_getElem? (i := 78) rfl))) Via.refl e4 F_returns' (g := (mkF m 22 #[.val (.ref x), .val (.ref y), .unset, .unset] [(.ref y)])) rfl rfl (hb hby d12_22)
          refine own_go st5 ?_
          show own_G p e below s _ _ _ (T5.setTop (mkF m 25 #[.val (.ref x), .val (.ref y), .unset, .unset] [(.int r2)]))
          refine own_if_ne X5 hx (pc := 25) (pc' := 42) (hb hby d12_25) (by decide) (by decide) (fun hc25 => ?_) (fun hc25 => ?_)
          · show own_G p e below s _ _ _ (T5.setTop (mkF m 42 #[.val (.ref x), .val (.ref y), .unset, .unset] []))
            refine own_go (fun _ kk_ => XS.iconst X5.here hx rfl (hb hby d12_42) kk_) ?_
            show own_G p e below s _ _ _ (T5.setTop (mkF m 43 #[.val (.ref x), .val (.ref y), .unset, .unset] [(.int (1 : Int32))]))
            exact own_retN (t := .boolean) (ht := by simp) X5 hx Bd.returns (BodyLoose.notSynchronized Bd) (hb hby d12_43) e5 ⟨_, rfl, N0, rfl, Or.inl ⟨rfl, Or.inr (Or.inr (Or.inl ⟨hc18, hc25⟩))⟩⟩ (by decide) (by decide)
          · exact J3 _ _ (X5.more (by decide) (by decide)) N0 e5 (fun q => q.2 hc25)
      intro T3 lo3 X3 N3 e3 hbr
      show own_G p e below s _ _ _ (T3.setTop (mkF m 28 #[.val (.ref x), .val (.ref y), .unset, .unset] []))
      suffices J6 : ∀ (T6 : State) (lo6 : List Loc), Stand p l e ({ frames := 0, cells := 0, slots := 0, locals := 0 } : Room) s m #[(.ref x), (.ref y)] below meth c T6 lo6 0 0 → Fr n0 lo6 → T6.heap = h0 → (¬ (¬ r1 = 0 ∧ ¬ b2 = 0)) → own_G p e below s (Q_rmDp00 Z x ca wa y da va kc kw kd kv c0 c1 w0 w1 b1 r1 y1 d0 d1 v0 v1 b2 r2 y2 h0 n0) ({ frames := 0, cells := 0, slots := 0, locals := 0 } : Room).cells ({ frames := 0, cells := 0, slots := 0, locals := 0 } : Room).slots (T6.setTop (mkF m 44 #[.val (.ref x), .val (.ref y), .unset, .unset] [])) by
        show own_G p e below s _ _ _ (T3.setTop (mkF m 28 #[.val (.ref x), .val (.ref y), .unset, .unset] []))
        refine own_go (fun _ kk_ => XS.aloadN X3.here hx rfl (hb hby d12_28) rfl rfl kk_) ?_
        show own_G p e below s _ _ _ (T3.setTop (mkF m 29 #[.val (.ref x), .val (.ref y), .unset, .unset] [(.ref x)]))
        obtain ⟨T7, X7, e7, st7⟩ := getF X3 hx hZ hown (host := "") (Or.inl (hw _ (List.mem_of_getElem? (i := 78) rfl))) Via.refl e3 F_returns (g := (mkF m 29 #[.val (.ref x), .val (.ref y), .unset, .unset] [(.ref x)])) rfl rfl (hb hby d12_29)
        refine own_go st7 ?_
        show own_G p e below s _ _ _ (T7.setTop (mkF m 32 #[.val (.ref x), .val (.ref y), .unset, .unset] [(.int r1)]))
        refine own_if_eq X7 hx (pc := 32) (pc' := 44) (hb hby d12_32) (by decide) (by decide) (fun hc32 => ?_) (fun hc32 => ?_)
        · exact J6 _ _ (X7.more (by decide) (by decide)) N3 e7 (fun q => q.1 hc32)
        · show own_G p e below s _ _ _ (T7.setTop (mkF m 35 #[.val (.ref x), .val (.ref y), .unset, .unset] []))
          refine own_go (fun _ kk_ => XS.aloadN X7.here hx rfl (hb hby d12_35) rfl rfl kk_) ?_
          show own_G p e below s _ _ _ (T7.setTop (mkF m 36 #[.val (.ref x), .val (.ref y), .unset, .unset] [(.ref y)]))
          obtain ⟨T8, X8, e8, st8⟩ := getF X7 hx hZ hown (host := "") (Or.inl (hw _ (List.mem_of_getElem? (i := 76) rfl))) Via.refl e7 F_begins' (g := (mkF m 36 #[.val (.ref x), .val (.ref y), .unset, .unset] [(.ref y)])) rfl rfl (hb hby d12_36)
          refine own_go st8 ?_
          show own_G p e below s _ _ _ (T8.setTop (mkF m 39 #[.val (.ref x), .val (.ref y), .unset, .unset] [(.int b2)]))
          refine own_if_eq X8 hx (pc := 39) (pc' := 44) (hb hby d12_39) (by decide) (by decide) (fun hc39 => ?_) (fun hc39 => ?_)
          · exact J6 _ _ (X8.more (by decide) (by decide)) N3 e8 (fun q => q.2 hc39)
          · show own_G p e below s _ _ _ (T8.setTop (mkF m 42 #[.val (.ref x), .val (.ref y), .unset, .unset] []))
            refine own_go (fun _ kk_ => XS.iconst X8.here hx rfl (hb hby d12_42) kk_) ?_
            show own_G p e below s _ _ _ (T8.setTop (mkF m 43 #[.val (.ref x), .val (.ref y), .unset, .unset] [(.int (1 : Int32))]))
            exact own_retN (t := .boolean) (ht := by simp) X8 hx Bd.returns (BodyLoose.notSynchronized Bd) (hb hby d12_43) e8 ⟨_, rfl, N3, rfl, Or.inl ⟨rfl, Or.inr (Or.inr (Or.inr (Or.inl ⟨hc32, hc39⟩)))⟩⟩ (by decide) (by decide)
      intro T6 lo6 X6 N6 e6 hrb
      show own_G p e below s _ _ _ (T6.setTop (mkF m 44 #[.val (.ref x), .val (.ref y), .unset, .unset] []))
      show own_G p e below s _ _ _ (T6.setTop (mkF m 44 #[.val (.ref x), .val (.ref y), .unset, .unset] []))
      refine own_go (fun _ kk_ => XS.iconst X6.here hx rfl (hb hby d12_44) kk_) ?_
      show own_G p e below s _ _ _ (T6.setTop (mkF m 45 #[.val (.ref x), .val (.ref y), .unset, .unset] [(.int (0 : Int32))]))
      refine own_go (fun _ kk_ => XS.istoreN X6.here hx rfl (hb hby d12_45) rfl (l' := #[.val (.ref x), .val (.ref y), .val (.int (0 : Int32)), .unset]) rfl kk_) ?_
      show own_G p e below s _ _ _ (T6.setTop (mkF m 46 #[.val (.ref x), .val (.ref y), .val (.int (0 : Int32)), .unset] []))
      refine own_go (fun _ kk_ => XS.iloadN X6.here hx rfl (hb hby d12_46) rfl kk_) ?_
      show own_G p e below s _ _ _ (T6.setTop (mkF m 47 #[.val (.ref x), .val (.ref y), .val (.int (0 : Int32)), .unset] [(.int (0 : Int32))]))
      refine own_go (fun _ kk_ => XS.aloadN X6.here hx rfl (hb hby d12_47) rfl rfl kk_) ?_
      show own_G p e below s _ _ _ (T6.setTop (mkF m 48 #[.val (.ref x), .val (.ref y), .val (.int (0 : Int32)), .unset] [(.ref x), (.int (0 : Int32))]))
      obtain ⟨T9, X9, e9, st9⟩ := getF X6 hx hZ hown (host := "") (Or.inl (hw _ (List.mem_of_getElem? (i := 80) rfl))) Via.refl e6 F_touched (g := (mkF m 48 #[.val (.ref x), .val (.ref y), .val (.int (0 : Int32)), .unset] [(.ref x), (.int (0 : Int32))])) rfl rfl (hb hby d12_48)
      refine own_go st9 ?_
      show own_G p e below s _ _ _ (T9.setTop (mkF m 51 #[.val (.ref x), .val (.ref y), .val (.int (0 : Int32)), .unset] [(.int (0 : Int32)), (.int (0 : Int32))]))
      refine own_ic_geY X9 hx (pc := 51) (pc' := 111) (hb hby d12_51) (by decide) (by decide) (by decide) ?_
      show own_G p e below s _ _ _ (T9.setTop (mkF m 111 #[.val (.ref x), .val (.ref y), .val (.int (0 : Int32)), .unset] []))
      refine own_go (fun _ kk_ => XS.iconst X9.here hx rfl (hb hby d12_111) kk_) ?_
      show own_G p e below s _ _ _ (T9.setTop (mkF m 112 #[.val (.ref x), .val (.ref y), .val (.int (0 : Int32)), .unset] [(.int (0 : Int32))]))
      exact own_retN (t := .boolean) (ht := by simp) X9 hx Bd.returns (BodyLoose.notSynchronized Bd) (hb hby d12_112) e9 ⟨_, rfl, N6, rfl, Or.inr ⟨rfl, own_Dno hc4 hc11 hbr hrb (fun q => q.elim (fun q => absurd q.1 (by decide)) (fun q => q.elim (fun q => absurd q.1 (by decide)) (fun q => q.elim (fun q => absurd q.1 (by decide)) (fun q => absurd q.1 (by decide)))))⟩⟩ (by decide) (by decide)
theorem ef_rmDp01 (m : MethodId) (x0 : Addr) (x1 : Addr) : entryFrame m #[(.ref x0), (.ref x1)] 4 = mkF m 0 #[.val (.ref x0), .val (.ref x1), .unset, .unset] [] := by first | (simp [entryFrame, mkF, argsToLocals, Value.category]; done) | rfl
def Q_rmDp01 (Z : State) (x ca wa y da va : Addr) (kc kw kd kv : ClassId) (c0 c1 w0 w1 b1 r1 y1 d0 d1 v0 v1 b2 r2 y2 : Int32) (h0 : Heap) (n0 : Nat) : Option Value → Heap → List Loc → Prop := fun v h L => ∃ B : Int32, v = some (.int B) ∧ Fr n0 L ∧ h = h0 ∧ ((B = 1 ∧ (own_D y1 y2 b1 r1 b2 r2 (own_C 0 1 c0 c1 w0 w1 d0 d1 v0 v1))) ∨ (B = 0 ∧ ¬ (own_D y1 y2 b1 r1 b2 r2 (own_C 0 1 c0 c1 w0 w1 d0 d1 v0 v1))))
set_option maxRecDepth 65536 in
set_option maxHeartbeats 40000000 in
theorem rmDp01 (l : Launch) (Z : State) (a0 : Array Value) (hw : ∀ d ∈ tables_1, d.before a0 Z = true) (ws : List Jvm.Cond) (x ca wa y da va : Addr) (kc kw kd kv : ClassId) (c0 c1 w0 w1 b1 r1 y1 d0 d1 v0 v1 b2 r2 y2 : Int32) (h0 : Heap) (n0 : Nat) (Z0 : n0 ≤ h0.size) (FP : own_FP Z h0 x ca wa kc kw 0 c0 c1 w0 w1 b1 r1 y1) (FQ : own_FP Z h0 y da va kd kv 1 d0 d1 v0 v1 b2 r2 y2) :
    MetFree l (⟨"com/example/relyguard/relyguard/Footprint", "dependsOn", "(Lcom/example/relyguard/relyguard/Footprint;)Z"⟩ : MethodName) (head1 (Jvm.Cond.code (⟨"com/example/relyguard/relyguard/Footprint", "dependsOn", "(Lcom/example/relyguard/relyguard/Footprint;)Z"⟩ : MethodName) prog_47_method_13_code 4 (some .boolean) :: ws) ({ frames := 0, cells := 0, slots := 0, locals := 0 } : Room)) (fun as_ U => as_ = #[(.ref x), (.ref y)] ∧ Z.Warmed39 U.vm ∧ U.heap = h0) (fun _ _ _ _ _ => True) (fun _ U o U' => ∃ v L, o = .returned v ∧ (Q_rmDp01 Z x ca wa y da va kc kw kd kv c0 c1 w0 w1 b1 r1 y1 d0 d1 v0 v1 b2 r2 y2 h0 n0) v U'.heap L ∧ FrameEnd U o U' L ({ frames := 0, cells := 0, slots := 0, locals := 0 } : Room).cells ({ frames := 0, cells := 0, slots := 0, locals := 0 } : Room).slots) := by
  refine MetFree.of_bodySF (plainFor_of_name pn_2) hisR ?_
  intro p e s m args below meth c s₁ Bd hml0 hP hK
  obtain ⟨rfl, hZ, hh⟩ := hP
  have hx := Bd.exec
  have hby := Bd.bytes
  have hml : c.maxLocals = 4 := hml0
  have hown : s.vm.findClass "com/example/relyguard/relyguard/Footprint" = some m.cls := findClass_of_methodNamed Bd.named
  have hnm := (name_of_methodNamed Bd.named Bd.method).1
  have X0 : Stand p l e ({ frames := 0, cells := 0, slots := 0, locals := 0 } : Room) s m #[(.ref x), (.ref y)] below meth c s₁ [] 0 0 := Stand.of_body Bd
  have e0 : s₁.heap = h0 := by rw [← hh, Bd.state]; rfl
  have N0 := Fr.nil n0
  show own_G p e below s (Q_rmDp01 Z x ca wa y da va kc kw kd kv c0 c1 w0 w1 b1 r1 y1 d0 d1 v0 v1 b2 r2 y2 h0 n0) ({ frames := 0, cells := 0, slots := 0, locals := 0 } : Room).cells ({ frames := 0, cells := 0, slots := 0, locals := 0 } : Room).slots (s₁.setTop (entryFrame m #[(.ref x), (.ref y)] 4))
  rw [ef_rmDp01 m x y]
  obtain ⟨⟨E_x, F_cells, F_writes, F_touched, F_begins, F_returns, F_endsRun⟩, ⟨V_c, V_w⟩, ne1, ne2, ne3⟩ := FP
  obtain ⟨⟨E_x', F_cells', F_writes', F_touched', F_begins', F_returns', F_endsRun'⟩, ⟨V_c', V_w'⟩, ne1', ne2', ne3'⟩ := FQ
  show own_G p e below s _ _ _ (s₁.setTop (mkF m 0 #[.val (.ref x), .val (.ref y), .unset, .unset] []))
  refine own_go (fun _ kk_ => XS.aloadN X0.here hx rfl (hb hby d12_0) rfl rfl kk_) ?_
  show own_G p e below s _ _ _ (s₁.setTop (mkF m 1 #[.val (.ref x), .val (.ref y), .unset, .unset] [(.ref x)]))
  obtain ⟨T1, X1, e1, st1⟩ := getF X0 hx hZ hown (host := "") (Or.inl (hw _ (List.mem_of_getElem? (i := 74) rfl))) Via.refl e0 F_endsRun (g := (mkF m 1 #[.val (.ref x), .val (.ref y), .unset, .unset] [(.ref x)])) rfl rfl (hb hby d12_1)
  refine own_go st1 ?_
  show own_G p e below s _ _ _ (T1.setTop (mkF m 4 #[.val (.ref x), .val (.ref y), .unset, .unset] [(.int y1)]))
  refine own_if_ne X1 hx (pc := 4) (pc' := 42) (hb hby d12_4) (by decide) (by decide) (fun hc4 => ?_) (fun hc4 => ?_)
  · show own_G p e below s _ _ _ (T1.setTop (mkF m 42 #[.val (.ref x), .val (.ref y), .unset, .unset] []))
    refine own_go (fun _ kk_ => XS.iconst X1.here hx rfl (hb hby d12_42) kk_) ?_
    show own_G p e below s _ _ _ (T1.setTop (mkF m 43 #[.val (.ref x), .val (.ref y), .unset, .unset] [(.int (1 : Int32))]))
    exact own_retN (t := .boolean) (ht := by simp) X1 hx Bd.returns (BodyLoose.notSynchronized Bd) (hb hby d12_43) e1 ⟨_, rfl, N0, rfl, Or.inl ⟨rfl, Or.inl hc4⟩⟩ (by decide) (by decide)
  · show own_G p e below s _ _ _ (T1.setTop (mkF m 7 #[.val (.ref x), .val (.ref y), .unset, .unset] []))
    refine own_go (fun _ kk_ => XS.aloadN X1.here hx rfl (hb hby d12_7) rfl rfl kk_) ?_
    show own_G p e below s _ _ _ (T1.setTop (mkF m 8 #[.val (.ref x), .val (.ref y), .unset, .unset] [(.ref y)]))
    obtain ⟨T2, X2, e2, st2⟩ := getF X1 hx hZ hown (host := "") (Or.inl (hw _ (List.mem_of_getElem? (i := 74) rfl))) Via.refl e1 F_endsRun' (g := (mkF m 8 #[.val (.ref x), .val (.ref y), .unset, .unset] [(.ref y)])) rfl rfl (hb hby d12_8)
    refine own_go st2 ?_
    show own_G p e below s _ _ _ (T2.setTop (mkF m 11 #[.val (.ref x), .val (.ref y), .unset, .unset] [(.int y2)]))
    refine own_if_ne X2 hx (pc := 11) (pc' := 42) (hb hby d12_11) (by decide) (by decide) (fun hc11 => ?_) (fun hc11 => ?_)
    · show own_G p e below s _ _ _ (T2.setTop (mkF m 42 #[.val (.ref x), .val (.ref y), .unset, .unset] []))
      refine own_go (fun _ kk_ => XS.iconst X2.here hx rfl (hb hby d12_42) kk_) ?_
      show own_G p e below s _ _ _ (T2.setTop (mkF m 43 #[.val (.ref x), .val (.ref y), .unset, .unset] [(.int (1 : Int32))]))
      exact own_retN (t := .boolean) (ht := by simp) X2 hx Bd.returns (BodyLoose.notSynchronized Bd) (hb hby d12_43) e2 ⟨_, rfl, N0, rfl, Or.inl ⟨rfl, Or.inr (Or.inl hc11)⟩⟩ (by decide) (by decide)
    · suffices J3 : ∀ (T3 : State) (lo3 : List Loc), Stand p l e ({ frames := 0, cells := 0, slots := 0, locals := 0 } : Room) s m #[(.ref x), (.ref y)] below meth c T3 lo3 0 0 → Fr n0 lo3 → T3.heap = h0 → (¬ (¬ b1 = 0 ∧ ¬ r2 = 0)) → own_G p e below s (Q_rmDp01 Z x ca wa y da va kc kw kd kv c0 c1 w0 w1 b1 r1 y1 d0 d1 v0 v1 b2 r2 y2 h0 n0) ({ frames := 0, cells := 0, slots := 0, locals := 0 } : Room).cells ({ frames := 0, cells := 0, slots := 0, locals := 0 } : Room).slots (T3.setTop (mkF m 28 #[.val (.ref x), .val (.ref y), .unset, .unset] [])) by
        show own_G p e below s _ _ _ (T2.setTop (mkF m 14 #[.val (.ref x), .val (.ref y), .unset, .unset] []))
        refine own_go (fun _ kk_ => XS.aloadN X2.here hx rfl (hb hby d12_14) rfl rfl kk_) ?_
        show own_G p e below s _ _ _ (T2.setTop (mkF m 15 #[.val (.ref x), .val (.ref y), .unset, .unset] [(.ref x)]))
        obtain ⟨T4, X4, e4, st4⟩ := getF X2 hx hZ hown (host := "") (Or.inl (hw _ (List.mem_of_getElem? (i := 76) rfl))) Via.refl e2 F_begins (g := (mkF m 15 #[.val (.ref x), .val (.ref y), .unset, .unset] [(.ref x)])) rfl rfl (hb hby d12_15)
        refine own_go st4 ?_
        show own_G p e below s _ _ _ (T4.setTop (mkF m 18 #[.val (.ref x), .val (.ref y), .unset, .unset] [(.int b1)]))
        refine own_if_eq X4 hx (pc := 18) (pc' := 28) (hb hby d12_18) (by decide) (by decide) (fun hc18 => ?_) (fun hc18 => ?_)
        · exact J3 _ _ (X4.more (by decide) (by decide)) N0 e4 (fun q => q.1 hc18)
        · show own_G p e below s _ _ _ (T4.setTop (mkF m 21 #[.val (.ref x), .val (.ref y), .unset, .unset] []))
          refine own_go (fun _ kk_ => XS.aloadN X4.here hx rfl (hb hby d12_21) rfl rfl kk_) ?_
          show own_G p e below s _ _ _ (T4.setTop (mkF m 22 #[.val (.ref x), .val (.ref y), .unset, .unset] [(.ref y)]))
          obtain ⟨T5, X5, e5, st5⟩ := getF X4 hx hZ hown (host := "") (Or.inl (hw _ (List.mem_of_getElem? (i := 78) rfl))) Via.refl e4 F_returns' (g := (mkF m 22 #[.val (.ref x), .val (.ref y), .unset, .unset] [(.ref y)])) rfl rfl (hb hby d12_22)
          refine own_go st5 ?_
          show own_G p e below s _ _ _ (T5.setTop (mkF m 25 #[.val (.ref x), .val (.ref y), .unset, .unset] [(.int r2)]))
          refine own_if_ne X5 hx (pc := 25) (pc' := 42) (hb hby d12_25) (by decide) (by decide) (fun hc25 => ?_) (fun hc25 => ?_)
          · show own_G p e below s _ _ _ (T5.setTop (mkF m 42 #[.val (.ref x), .val (.ref y), .unset, .unset] []))
            refine own_go (fun _ kk_ => XS.iconst X5.here hx rfl (hb hby d12_42) kk_) ?_
            show own_G p e below s _ _ _ (T5.setTop (mkF m 43 #[.val (.ref x), .val (.ref y), .unset, .unset] [(.int (1 : Int32))]))
            exact own_retN (t := .boolean) (ht := by simp) X5 hx Bd.returns (BodyLoose.notSynchronized Bd) (hb hby d12_43) e5 ⟨_, rfl, N0, rfl, Or.inl ⟨rfl, Or.inr (Or.inr (Or.inl ⟨hc18, hc25⟩))⟩⟩ (by decide) (by decide)
          · exact J3 _ _ (X5.more (by decide) (by decide)) N0 e5 (fun q => q.2 hc25)
      intro T3 lo3 X3 N3 e3 hbr
      show own_G p e below s _ _ _ (T3.setTop (mkF m 28 #[.val (.ref x), .val (.ref y), .unset, .unset] []))
      suffices J6 : ∀ (T6 : State) (lo6 : List Loc), Stand p l e ({ frames := 0, cells := 0, slots := 0, locals := 0 } : Room) s m #[(.ref x), (.ref y)] below meth c T6 lo6 0 0 → Fr n0 lo6 → T6.heap = h0 → (¬ (¬ r1 = 0 ∧ ¬ b2 = 0)) → own_G p e below s (Q_rmDp01 Z x ca wa y da va kc kw kd kv c0 c1 w0 w1 b1 r1 y1 d0 d1 v0 v1 b2 r2 y2 h0 n0) ({ frames := 0, cells := 0, slots := 0, locals := 0 } : Room).cells ({ frames := 0, cells := 0, slots := 0, locals := 0 } : Room).slots (T6.setTop (mkF m 44 #[.val (.ref x), .val (.ref y), .unset, .unset] [])) by
        show own_G p e below s _ _ _ (T3.setTop (mkF m 28 #[.val (.ref x), .val (.ref y), .unset, .unset] []))
        refine own_go (fun _ kk_ => XS.aloadN X3.here hx rfl (hb hby d12_28) rfl rfl kk_) ?_
        show own_G p e below s _ _ _ (T3.setTop (mkF m 29 #[.val (.ref x), .val (.ref y), .unset, .unset] [(.ref x)]))
        obtain ⟨T7, X7, e7, st7⟩ := getF X3 hx hZ hown (host := "") (Or.inl (hw _ (List.mem_of_getElem? (i := 78) rfl))) Via.refl e3 F_returns (g := (mkF m 29 #[.val (.ref x), .val (.ref y), .unset, .unset] [(.ref x)])) rfl rfl (hb hby d12_29)
        refine own_go st7 ?_
        show own_G p e below s _ _ _ (T7.setTop (mkF m 32 #[.val (.ref x), .val (.ref y), .unset, .unset] [(.int r1)]))
        refine own_if_eq X7 hx (pc := 32) (pc' := 44) (hb hby d12_32) (by decide) (by decide) (fun hc32 => ?_) (fun hc32 => ?_)
        · exact J6 _ _ (X7.more (by decide) (by decide)) N3 e7 (fun q => q.1 hc32)
        · show own_G p e below s _ _ _ (T7.setTop (mkF m 35 #[.val (.ref x), .val (.ref y), .unset, .unset] []))
          refine own_go (fun _ kk_ => XS.aloadN X7.here hx rfl (hb hby d12_35) rfl rfl kk_) ?_
          show own_G p e below s _ _ _ (T7.setTop (mkF m 36 #[.val (.ref x), .val (.ref y), .unset, .unset] [(.ref y)]))
          obtain ⟨T8, X8, e8, st8⟩ := getF X7 hx hZ hown (host := "") (Or.inl (hw _ (List.mem_of_getElem? (i := 76) rfl))) Via.refl e7 F_begins' (g := (mkF m 36 #[.val (.ref x), .val (.ref y), .unset, .unset] [(.ref y)])) rfl rfl (hb hby d12_36)
          refine own_go st8 ?_
          show own_G p e below s _ _ _ (T8.setTop (mkF m 39 #[.val (.ref x), .val (.ref y), .unset, .unset] [(.int b2)]))
          refine own_if_eq X8 hx (pc := 39) (pc' := 44) (hb hby d12_39) (by decide) (by decide) (fun hc39 => ?_) (fun hc39 => ?_)
          · exact J6 _ _ (X8.more (by decide) (by decide)) N3 e8 (fun q => q.2 hc39)
          · show own_G p e below s _ _ _ (T8.setTop (mkF m 42 #[.val (.ref x), .val (.ref y), .unset, .unset] []))
            refine own_go (fun _ kk_ => XS.iconst X8.here hx rfl (hb hby d12_42) kk_) ?_
            show own_G p e below s _ _ _ (T8.setTop (mkF m 43 #[.val (.ref x), .val (.ref y), .unset, .unset] [(.int (1 : Int32))]))
            exact own_retN (t := .boolean) (ht := by simp) X8 hx Bd.returns (BodyLoose.notSynchronized Bd) (hb hby d12_43) e8 ⟨_, rfl, N3, rfl, Or.inl ⟨rfl, Or.inr (Or.inr (Or.inr (Or.inl ⟨hc32, hc39⟩)))⟩⟩ (by decide) (by decide)
      intro T6 lo6 X6 N6 e6 hrb
      show own_G p e below s _ _ _ (T6.setTop (mkF m 44 #[.val (.ref x), .val (.ref y), .unset, .unset] []))
      show own_G p e below s _ _ _ (T6.setTop (mkF m 44 #[.val (.ref x), .val (.ref y), .unset, .unset] []))
      refine own_go (fun _ kk_ => XS.iconst X6.here hx rfl (hb hby d12_44) kk_) ?_
      show own_G p e below s _ _ _ (T6.setTop (mkF m 45 #[.val (.ref x), .val (.ref y), .unset, .unset] [(.int (0 : Int32))]))
      refine own_go (fun _ kk_ => XS.istoreN X6.here hx rfl (hb hby d12_45) rfl (l' := #[.val (.ref x), .val (.ref y), .val (.int (0 : Int32)), .unset]) rfl kk_) ?_
      show own_G p e below s _ _ _ (T6.setTop (mkF m 46 #[.val (.ref x), .val (.ref y), .val (.int (0 : Int32)), .unset] []))
      refine own_go (fun _ kk_ => XS.iloadN X6.here hx rfl (hb hby d12_46) rfl kk_) ?_
      show own_G p e below s _ _ _ (T6.setTop (mkF m 47 #[.val (.ref x), .val (.ref y), .val (.int (0 : Int32)), .unset] [(.int (0 : Int32))]))
      refine own_go (fun _ kk_ => XS.aloadN X6.here hx rfl (hb hby d12_47) rfl rfl kk_) ?_
      show own_G p e below s _ _ _ (T6.setTop (mkF m 48 #[.val (.ref x), .val (.ref y), .val (.int (0 : Int32)), .unset] [(.ref x), (.int (0 : Int32))]))
      obtain ⟨T9, X9, e9, st9⟩ := getF X6 hx hZ hown (host := "") (Or.inl (hw _ (List.mem_of_getElem? (i := 80) rfl))) Via.refl e6 F_touched (g := (mkF m 48 #[.val (.ref x), .val (.ref y), .val (.int (0 : Int32)), .unset] [(.ref x), (.int (0 : Int32))])) rfl rfl (hb hby d12_48)
      refine own_go st9 ?_
      show own_G p e below s _ _ _ (T9.setTop (mkF m 51 #[.val (.ref x), .val (.ref y), .val (.int (0 : Int32)), .unset] [(.int (0 : Int32)), (.int (0 : Int32))]))
      refine own_ic_geY X9 hx (pc := 51) (pc' := 111) (hb hby d12_51) (by decide) (by decide) (by decide) ?_
      show own_G p e below s _ _ _ (T9.setTop (mkF m 111 #[.val (.ref x), .val (.ref y), .val (.int (0 : Int32)), .unset] []))
      refine own_go (fun _ kk_ => XS.iconst X9.here hx rfl (hb hby d12_111) kk_) ?_
      show own_G p e below s _ _ _ (T9.setTop (mkF m 112 #[.val (.ref x), .val (.ref y), .val (.int (0 : Int32)), .unset] [(.int (0 : Int32))]))
      exact own_retN (t := .boolean) (ht := by simp) X9 hx Bd.returns (BodyLoose.notSynchronized Bd) (hb hby d12_112) e9 ⟨_, rfl, N6, rfl, Or.inr ⟨rfl, own_Dno hc4 hc11 hbr hrb (fun q => q.elim (fun q => absurd q.1 (by decide)) (fun q => q.elim (fun q => absurd q.1 (by decide)) (fun q => q.elim (fun q => absurd q.1 (by decide)) (fun q => absurd q.1 (by decide)))))⟩⟩ (by decide) (by decide)
theorem ef_rmDp02 (m : MethodId) (x0 : Addr) (x1 : Addr) : entryFrame m #[(.ref x0), (.ref x1)] 4 = mkF m 0 #[.val (.ref x0), .val (.ref x1), .unset, .unset] [] := by first | (simp [entryFrame, mkF, argsToLocals, Value.category]; done) | rfl
def Q_rmDp02 (Z : State) (x ca wa y da va : Addr) (kc kw kd kv : ClassId) (c0 c1 w0 w1 b1 r1 y1 d0 d1 v0 v1 b2 r2 y2 : Int32) (h0 : Heap) (n0 : Nat) : Option Value → Heap → List Loc → Prop := fun v h L => ∃ B : Int32, v = some (.int B) ∧ Fr n0 L ∧ h = h0 ∧ ((B = 1 ∧ (own_D y1 y2 b1 r1 b2 r2 (own_C 0 2 c0 c1 w0 w1 d0 d1 v0 v1))) ∨ (B = 0 ∧ ¬ (own_D y1 y2 b1 r1 b2 r2 (own_C 0 2 c0 c1 w0 w1 d0 d1 v0 v1))))
set_option maxRecDepth 65536 in
set_option maxHeartbeats 40000000 in
theorem rmDp02 (l : Launch) (Z : State) (a0 : Array Value) (hw : ∀ d ∈ tables_1, d.before a0 Z = true) (ws : List Jvm.Cond) (x ca wa y da va : Addr) (kc kw kd kv : ClassId) (c0 c1 w0 w1 b1 r1 y1 d0 d1 v0 v1 b2 r2 y2 : Int32) (h0 : Heap) (n0 : Nat) (Z0 : n0 ≤ h0.size) (FP : own_FP Z h0 x ca wa kc kw 0 c0 c1 w0 w1 b1 r1 y1) (FQ : own_FP Z h0 y da va kd kv 2 d0 d1 v0 v1 b2 r2 y2) :
    MetFree l (⟨"com/example/relyguard/relyguard/Footprint", "dependsOn", "(Lcom/example/relyguard/relyguard/Footprint;)Z"⟩ : MethodName) (head1 (Jvm.Cond.code (⟨"com/example/relyguard/relyguard/Footprint", "dependsOn", "(Lcom/example/relyguard/relyguard/Footprint;)Z"⟩ : MethodName) prog_47_method_13_code 4 (some .boolean) :: ws) ({ frames := 0, cells := 0, slots := 0, locals := 0 } : Room)) (fun as_ U => as_ = #[(.ref x), (.ref y)] ∧ Z.Warmed39 U.vm ∧ U.heap = h0) (fun _ _ _ _ _ => True) (fun _ U o U' => ∃ v L, o = .returned v ∧ (Q_rmDp02 Z x ca wa y da va kc kw kd kv c0 c1 w0 w1 b1 r1 y1 d0 d1 v0 v1 b2 r2 y2 h0 n0) v U'.heap L ∧ FrameEnd U o U' L ({ frames := 0, cells := 0, slots := 0, locals := 0 } : Room).cells ({ frames := 0, cells := 0, slots := 0, locals := 0 } : Room).slots) := by
  refine MetFree.of_bodySF (plainFor_of_name pn_2) hisR ?_
  intro p e s m args below meth c s₁ Bd hml0 hP hK
  obtain ⟨rfl, hZ, hh⟩ := hP
  have hx := Bd.exec
  have hby := Bd.bytes
  have hml : c.maxLocals = 4 := hml0
  have hown : s.vm.findClass "com/example/relyguard/relyguard/Footprint" = some m.cls := findClass_of_methodNamed Bd.named
  have hnm := (name_of_methodNamed Bd.named Bd.method).1
  have X0 : Stand p l e ({ frames := 0, cells := 0, slots := 0, locals := 0 } : Room) s m #[(.ref x), (.ref y)] below meth c s₁ [] 0 0 := Stand.of_body Bd
  have e0 : s₁.heap = h0 := by rw [← hh, Bd.state]; rfl
  have N0 := Fr.nil n0
  show own_G p e below s (Q_rmDp02 Z x ca wa y da va kc kw kd kv c0 c1 w0 w1 b1 r1 y1 d0 d1 v0 v1 b2 r2 y2 h0 n0) ({ frames := 0, cells := 0, slots := 0, locals := 0 } : Room).cells ({ frames := 0, cells := 0, slots := 0, locals := 0 } : Room).slots (s₁.setTop (entryFrame m #[(.ref x), (.ref y)] 4))
  rw [ef_rmDp02 m x y]
  obtain ⟨⟨E_x, F_cells, F_writes, F_touched, F_begins, F_returns, F_endsRun⟩, ⟨V_c, V_w⟩, ne1, ne2, ne3⟩ := FP
  obtain ⟨⟨E_x', F_cells', F_writes', F_touched', F_begins', F_returns', F_endsRun'⟩, ⟨V_c', V_w'⟩, ne1', ne2', ne3'⟩ := FQ
  show own_G p e below s _ _ _ (s₁.setTop (mkF m 0 #[.val (.ref x), .val (.ref y), .unset, .unset] []))
  refine own_go (fun _ kk_ => XS.aloadN X0.here hx rfl (hb hby d12_0) rfl rfl kk_) ?_
  show own_G p e below s _ _ _ (s₁.setTop (mkF m 1 #[.val (.ref x), .val (.ref y), .unset, .unset] [(.ref x)]))
  obtain ⟨T1, X1, e1, st1⟩ := getF X0 hx hZ hown (host := "") (Or.inl (hw _ (List.mem_of_getElem? (i := 74) rfl))) Via.refl e0 F_endsRun (g := (mkF m 1 #[.val (.ref x), .val (.ref y), .unset, .unset] [(.ref x)])) rfl rfl (hb hby d12_1)
  refine own_go st1 ?_
  show own_G p e below s _ _ _ (T1.setTop (mkF m 4 #[.val (.ref x), .val (.ref y), .unset, .unset] [(.int y1)]))
  refine own_if_ne X1 hx (pc := 4) (pc' := 42) (hb hby d12_4) (by decide) (by decide) (fun hc4 => ?_) (fun hc4 => ?_)
  · show own_G p e below s _ _ _ (T1.setTop (mkF m 42 #[.val (.ref x), .val (.ref y), .unset, .unset] []))
    refine own_go (fun _ kk_ => XS.iconst X1.here hx rfl (hb hby d12_42) kk_) ?_
    show own_G p e below s _ _ _ (T1.setTop (mkF m 43 #[.val (.ref x), .val (.ref y), .unset, .unset] [(.int (1 : Int32))]))
    exact own_retN (t := .boolean) (ht := by simp) X1 hx Bd.returns (BodyLoose.notSynchronized Bd) (hb hby d12_43) e1 ⟨_, rfl, N0, rfl, Or.inl ⟨rfl, Or.inl hc4⟩⟩ (by decide) (by decide)
  · show own_G p e below s _ _ _ (T1.setTop (mkF m 7 #[.val (.ref x), .val (.ref y), .unset, .unset] []))
    refine own_go (fun _ kk_ => XS.aloadN X1.here hx rfl (hb hby d12_7) rfl rfl kk_) ?_
    show own_G p e below s _ _ _ (T1.setTop (mkF m 8 #[.val (.ref x), .val (.ref y), .unset, .unset] [(.ref y)]))
    obtain ⟨T2, X2, e2, st2⟩ := getF X1 hx hZ hown (host := "") (Or.inl (hw _ (List.mem_of_getElem? (i := 74) rfl))) Via.refl e1 F_endsRun' (g := (mkF m 8 #[.val (.ref x), .val (.ref y), .unset, .unset] [(.ref y)])) rfl rfl (hb hby d12_8)
    refine own_go st2 ?_
    show own_G p e below s _ _ _ (T2.setTop (mkF m 11 #[.val (.ref x), .val (.ref y), .unset, .unset] [(.int y2)]))
    refine own_if_ne X2 hx (pc := 11) (pc' := 42) (hb hby d12_11) (by decide) (by decide) (fun hc11 => ?_) (fun hc11 => ?_)
    · show own_G p e below s _ _ _ (T2.setTop (mkF m 42 #[.val (.ref x), .val (.ref y), .unset, .unset] []))
      refine own_go (fun _ kk_ => XS.iconst X2.here hx rfl (hb hby d12_42) kk_) ?_
      show own_G p e below s _ _ _ (T2.setTop (mkF m 43 #[.val (.ref x), .val (.ref y), .unset, .unset] [(.int (1 : Int32))]))
      exact own_retN (t := .boolean) (ht := by simp) X2 hx Bd.returns (BodyLoose.notSynchronized Bd) (hb hby d12_43) e2 ⟨_, rfl, N0, rfl, Or.inl ⟨rfl, Or.inr (Or.inl hc11)⟩⟩ (by decide) (by decide)
    · suffices J3 : ∀ (T3 : State) (lo3 : List Loc), Stand p l e ({ frames := 0, cells := 0, slots := 0, locals := 0 } : Room) s m #[(.ref x), (.ref y)] below meth c T3 lo3 0 0 → Fr n0 lo3 → T3.heap = h0 → (¬ (¬ b1 = 0 ∧ ¬ r2 = 0)) → own_G p e below s (Q_rmDp02 Z x ca wa y da va kc kw kd kv c0 c1 w0 w1 b1 r1 y1 d0 d1 v0 v1 b2 r2 y2 h0 n0) ({ frames := 0, cells := 0, slots := 0, locals := 0 } : Room).cells ({ frames := 0, cells := 0, slots := 0, locals := 0 } : Room).slots (T3.setTop (mkF m 28 #[.val (.ref x), .val (.ref y), .unset, .unset] [])) by
        show own_G p e below s _ _ _ (T2.setTop (mkF m 14 #[.val (.ref x), .val (.ref y), .unset, .unset] []))
        refine own_go (fun _ kk_ => XS.aloadN X2.here hx rfl (hb hby d12_14) rfl rfl kk_) ?_
        show own_G p e below s _ _ _ (T2.setTop (mkF m 15 #[.val (.ref x), .val (.ref y), .unset, .unset] [(.ref x)]))
        obtain ⟨T4, X4, e4, st4⟩ := getF X2 hx hZ hown (host := "") (Or.inl (hw _ (List.mem_of_getElem? (i := 76) rfl))) Via.refl e2 F_begins (g := (mkF m 15 #[.val (.ref x), .val (.ref y), .unset, .unset] [(.ref x)])) rfl rfl (hb hby d12_15)
        refine own_go st4 ?_
        show own_G p e below s _ _ _ (T4.setTop (mkF m 18 #[.val (.ref x), .val (.ref y), .unset, .unset] [(.int b1)]))
        refine own_if_eq X4 hx (pc := 18) (pc' := 28) (hb hby d12_18) (by decide) (by decide) (fun hc18 => ?_) (fun hc18 => ?_)
        · exact J3 _ _ (X4.more (by decide) (by decide)) N0 e4 (fun q => q.1 hc18)
        · show own_G p e below s _ _ _ (T4.setTop (mkF m 21 #[.val (.ref x), .val (.ref y), .unset, .unset] []))
          refine own_go (fun _ kk_ => XS.aloadN X4.here hx rfl (hb hby d12_21) rfl rfl kk_) ?_
          show own_G p e below s _ _ _ (T4.setTop (mkF m 22 #[.val (.ref x), .val (.ref y), .unset, .unset] [(.ref y)]))
          obtain ⟨T5, X5, e5, st5⟩ := getF X4 hx hZ hown (host := "") (Or.inl (hw _ (List.mem_of_getElem? (i := 78) rfl))) Via.refl e4 F_returns' (g := (mkF m 22 #[.val (.ref x), .val (.ref y), .unset, .unset] [(.ref y)])) rfl rfl (hb hby d12_22)
          refine own_go st5 ?_
          show own_G p e below s _ _ _ (T5.setTop (mkF m 25 #[.val (.ref x), .val (.ref y), .unset, .unset] [(.int r2)]))
          refine own_if_ne X5 hx (pc := 25) (pc' := 42) (hb hby d12_25) (by decide) (by decide) (fun hc25 => ?_) (fun hc25 => ?_)
          · show own_G p e below s _ _ _ (T5.setTop (mkF m 42 #[.val (.ref x), .val (.ref y), .unset, .unset] []))
            refine own_go (fun _ kk_ => XS.iconst X5.here hx rfl (hb hby d12_42) kk_) ?_
            show own_G p e below s _ _ _ (T5.setTop (mkF m 43 #[.val (.ref x), .val (.ref y), .unset, .unset] [(.int (1 : Int32))]))
            exact own_retN (t := .boolean) (ht := by simp) X5 hx Bd.returns (BodyLoose.notSynchronized Bd) (hb hby d12_43) e5 ⟨_, rfl, N0, rfl, Or.inl ⟨rfl, Or.inr (Or.inr (Or.inl ⟨hc18, hc25⟩))⟩⟩ (by decide) (by decide)
          · exact J3 _ _ (X5.more (by decide) (by decide)) N0 e5 (fun q => q.2 hc25)
      intro T3 lo3 X3 N3 e3 hbr
      show own_G p e below s _ _ _ (T3.setTop (mkF m 28 #[.val (.ref x), .val (.ref y), .unset, .unset] []))
      suffices J6 : ∀ (T6 : State) (lo6 : List Loc), Stand p l e ({ frames := 0, cells := 0, slots := 0, locals := 0 } : Room) s m #[(.ref x), (.ref y)] below meth c T6 lo6 0 0 → Fr n0 lo6 → T6.heap = h0 → (¬ (¬ r1 = 0 ∧ ¬ b2 = 0)) → own_G p e below s (Q_rmDp02 Z x ca wa y da va kc kw kd kv c0 c1 w0 w1 b1 r1 y1 d0 d1 v0 v1 b2 r2 y2 h0 n0) ({ frames := 0, cells := 0, slots := 0, locals := 0 } : Room).cells ({ frames := 0, cells := 0, slots := 0, locals := 0 } : Room).slots (T6.setTop (mkF m 44 #[.val (.ref x), .val (.ref y), .unset, .unset] [])) by
        show own_G p e below s _ _ _ (T3.setTop (mkF m 28 #[.val (.ref x), .val (.ref y), .unset, .unset] []))
        refine own_go (fun _ kk_ => XS.aloadN X3.here hx rfl (hb hby d12_28) rfl rfl kk_) ?_
        show own_G p e below s _ _ _ (T3.setTop (mkF m 29 #[.val (.ref x), .val (.ref y), .unset, .unset] [(.ref x)]))
        obtain ⟨T7, X7, e7, st7⟩ := getF X3 hx hZ hown (host := "") (Or.inl (hw _ (List.mem_of_getElem? (i := 78) rfl))) Via.refl e3 F_returns (g := (mkF m 29 #[.val (.ref x), .val (.ref y), .unset, .unset] [(.ref x)])) rfl rfl (hb hby d12_29)
        refine own_go st7 ?_
        show own_G p e below s _ _ _ (T7.setTop (mkF m 32 #[.val (.ref x), .val (.ref y), .unset, .unset] [(.int r1)]))
        refine own_if_eq X7 hx (pc := 32) (pc' := 44) (hb hby d12_32) (by decide) (by decide) (fun hc32 => ?_) (fun hc32 => ?_)
        · exact J6 _ _ (X7.more (by decide) (by decide)) N3 e7 (fun q => q.1 hc32)
        · show own_G p e below s _ _ _ (T7.setTop (mkF m 35 #[.val (.ref x), .val (.ref y), .unset, .unset] []))
          refine own_go (fun _ kk_ => XS.aloadN X7.here hx rfl (hb hby d12_35) rfl rfl kk_) ?_
          show own_G p e below s _ _ _ (T7.setTop (mkF m 36 #[.val (.ref x), .val (.ref y), .unset, .unset] [(.ref y)]))
          obtain ⟨T8, X8, e8, st8⟩ := getF X7 hx hZ hown (host := "") (Or.inl (hw _ (List.mem_of_getElem? (i := 76) rfl))) Via.refl e7 F_begins' (g := (mkF m 36 #[.val (.ref x), .val (.ref y), .unset, .unset] [(.ref y)])) rfl rfl (hb hby d12_36)
          refine own_go st8 ?_
          show own_G p e below s _ _ _ (T8.setTop (mkF m 39 #[.val (.ref x), .val (.ref y), .unset, .unset] [(.int b2)]))
          refine own_if_eq X8 hx (pc := 39) (pc' := 44) (hb hby d12_39) (by decide) (by decide) (fun hc39 => ?_) (fun hc39 => ?_)
          · exact J6 _ _ (X8.more (by decide) (by decide)) N3 e8 (fun q => q.2 hc39)
          · show own_G p e below s _ _ _ (T8.setTop (mkF m 42 #[.val (.ref x), .val (.ref y), .unset, .unset] []))
            refine own_go (fun _ kk_ => XS.iconst X8.here hx rfl (hb hby d12_42) kk_) ?_
            show own_G p e below s _ _ _ (T8.setTop (mkF m 43 #[.val (.ref x), .val (.ref y), .unset, .unset] [(.int (1 : Int32))]))
            exact own_retN (t := .boolean) (ht := by simp) X8 hx Bd.returns (BodyLoose.notSynchronized Bd) (hb hby d12_43) e8 ⟨_, rfl, N3, rfl, Or.inl ⟨rfl, Or.inr (Or.inr (Or.inr (Or.inl ⟨hc32, hc39⟩)))⟩⟩ (by decide) (by decide)
      intro T6 lo6 X6 N6 e6 hrb
      show own_G p e below s _ _ _ (T6.setTop (mkF m 44 #[.val (.ref x), .val (.ref y), .unset, .unset] []))
      show own_G p e below s _ _ _ (T6.setTop (mkF m 44 #[.val (.ref x), .val (.ref y), .unset, .unset] []))
      refine own_go (fun _ kk_ => XS.iconst X6.here hx rfl (hb hby d12_44) kk_) ?_
      show own_G p e below s _ _ _ (T6.setTop (mkF m 45 #[.val (.ref x), .val (.ref y), .unset, .unset] [(.int (0 : Int32))]))
      refine own_go (fun _ kk_ => XS.istoreN X6.here hx rfl (hb hby d12_45) rfl (l' := #[.val (.ref x), .val (.ref y), .val (.int (0 : Int32)), .unset]) rfl kk_) ?_
      show own_G p e below s _ _ _ (T6.setTop (mkF m 46 #[.val (.ref x), .val (.ref y), .val (.int (0 : Int32)), .unset] []))
      refine own_go (fun _ kk_ => XS.iloadN X6.here hx rfl (hb hby d12_46) rfl kk_) ?_
      show own_G p e below s _ _ _ (T6.setTop (mkF m 47 #[.val (.ref x), .val (.ref y), .val (.int (0 : Int32)), .unset] [(.int (0 : Int32))]))
      refine own_go (fun _ kk_ => XS.aloadN X6.here hx rfl (hb hby d12_47) rfl rfl kk_) ?_
      show own_G p e below s _ _ _ (T6.setTop (mkF m 48 #[.val (.ref x), .val (.ref y), .val (.int (0 : Int32)), .unset] [(.ref x), (.int (0 : Int32))]))
      obtain ⟨T9, X9, e9, st9⟩ := getF X6 hx hZ hown (host := "") (Or.inl (hw _ (List.mem_of_getElem? (i := 80) rfl))) Via.refl e6 F_touched (g := (mkF m 48 #[.val (.ref x), .val (.ref y), .val (.int (0 : Int32)), .unset] [(.ref x), (.int (0 : Int32))])) rfl rfl (hb hby d12_48)
      refine own_go st9 ?_
      show own_G p e below s _ _ _ (T9.setTop (mkF m 51 #[.val (.ref x), .val (.ref y), .val (.int (0 : Int32)), .unset] [(.int (0 : Int32)), (.int (0 : Int32))]))
      refine own_ic_geY X9 hx (pc := 51) (pc' := 111) (hb hby d12_51) (by decide) (by decide) (by decide) ?_
      show own_G p e below s _ _ _ (T9.setTop (mkF m 111 #[.val (.ref x), .val (.ref y), .val (.int (0 : Int32)), .unset] []))
      refine own_go (fun _ kk_ => XS.iconst X9.here hx rfl (hb hby d12_111) kk_) ?_
      show own_G p e below s _ _ _ (T9.setTop (mkF m 112 #[.val (.ref x), .val (.ref y), .val (.int (0 : Int32)), .unset] [(.int (0 : Int32))]))
      exact own_retN (t := .boolean) (ht := by simp) X9 hx Bd.returns (BodyLoose.notSynchronized Bd) (hb hby d12_112) e9 ⟨_, rfl, N6, rfl, Or.inr ⟨rfl, own_Dno hc4 hc11 hbr hrb (fun q => q.elim (fun q => absurd q.1 (by decide)) (fun q => q.elim (fun q => absurd q.1 (by decide)) (fun q => q.elim (fun q => absurd q.1 (by decide)) (fun q => absurd q.1 (by decide)))))⟩⟩ (by decide) (by decide)
theorem d12_54 : decode prog_47_method_13_code 54 = .ok (.iconst 0, 1) := by decide +kernel
theorem d12_55 : decode prog_47_method_13_code 55 = .ok (.istore_n 3, 1) := by decide +kernel
theorem d12_56 : decode prog_47_method_13_code 56 = .ok (.iload_n 3, 1) := by decide +kernel
theorem d12_57 : decode prog_47_method_13_code 57 = .ok (.aload_n 1, 1) := by decide +kernel
theorem d12_58 : decode prog_47_method_13_code 58 = .ok (.getfield 32, 3) := by decide +kernel
theorem d12_61 : decode prog_47_method_13_code 61 = .ok (.if_icmp .ge 44, 3) := by decide +kernel
theorem d12_105 : decode prog_47_method_13_code 105 = .ok (.iinc 2 1, 3) := by decide +kernel
theorem d12_108 : decode prog_47_method_13_code 108 = .ok (.goto (-62), 3) := by decide +kernel
theorem ef_rmDp10 (m : MethodId) (x0 : Addr) (x1 : Addr) : entryFrame m #[(.ref x0), (.ref x1)] 4 = mkF m 0 #[.val (.ref x0), .val (.ref x1), .unset, .unset] [] := by first | (simp [entryFrame, mkF, argsToLocals, Value.category]; done) | rfl
def Q_rmDp10 (Z : State) (x ca wa y da va : Addr) (kc kw kd kv : ClassId) (c0 c1 w0 w1 b1 r1 y1 d0 d1 v0 v1 b2 r2 y2 : Int32) (h0 : Heap) (n0 : Nat) : Option Value → Heap → List Loc → Prop := fun v h L => ∃ B : Int32, v = some (.int B) ∧ Fr n0 L ∧ h = h0 ∧ ((B = 1 ∧ (own_D y1 y2 b1 r1 b2 r2 (own_C 1 0 c0 c1 w0 w1 d0 d1 v0 v1))) ∨ (B = 0 ∧ ¬ (own_D y1 y2 b1 r1 b2 r2 (own_C 1 0 c0 c1 w0 w1 d0 d1 v0 v1))))
set_option maxRecDepth 65536 in
set_option maxHeartbeats 40000000 in
theorem rmDp10 (l : Launch) (Z : State) (a0 : Array Value) (hw : ∀ d ∈ tables_1, d.before a0 Z = true) (ws : List Jvm.Cond) (x ca wa y da va : Addr) (kc kw kd kv : ClassId) (c0 c1 w0 w1 b1 r1 y1 d0 d1 v0 v1 b2 r2 y2 : Int32) (h0 : Heap) (n0 : Nat) (Z0 : n0 ≤ h0.size) (FP : own_FP Z h0 x ca wa kc kw 1 c0 c1 w0 w1 b1 r1 y1) (FQ : own_FP Z h0 y da va kd kv 0 d0 d1 v0 v1 b2 r2 y2) :
    MetFree l (⟨"com/example/relyguard/relyguard/Footprint", "dependsOn", "(Lcom/example/relyguard/relyguard/Footprint;)Z"⟩ : MethodName) (head1 (Jvm.Cond.code (⟨"com/example/relyguard/relyguard/Footprint", "dependsOn", "(Lcom/example/relyguard/relyguard/Footprint;)Z"⟩ : MethodName) prog_47_method_13_code 4 (some .boolean) :: ws) ({ frames := 0, cells := 0, slots := 0, locals := 0 } : Room)) (fun as_ U => as_ = #[(.ref x), (.ref y)] ∧ Z.Warmed39 U.vm ∧ U.heap = h0) (fun _ _ _ _ _ => True) (fun _ U o U' => ∃ v L, o = .returned v ∧ (Q_rmDp10 Z x ca wa y da va kc kw kd kv c0 c1 w0 w1 b1 r1 y1 d0 d1 v0 v1 b2 r2 y2 h0 n0) v U'.heap L ∧ FrameEnd U o U' L ({ frames := 0, cells := 0, slots := 0, locals := 0 } : Room).cells ({ frames := 0, cells := 0, slots := 0, locals := 0 } : Room).slots) := by
  refine MetFree.of_bodySF (plainFor_of_name pn_2) hisR ?_
  intro p e s m args below meth c s₁ Bd hml0 hP hK
  obtain ⟨rfl, hZ, hh⟩ := hP
  have hx := Bd.exec
  have hby := Bd.bytes
  have hml : c.maxLocals = 4 := hml0
  have hown : s.vm.findClass "com/example/relyguard/relyguard/Footprint" = some m.cls := findClass_of_methodNamed Bd.named
  have hnm := (name_of_methodNamed Bd.named Bd.method).1
  have X0 : Stand p l e ({ frames := 0, cells := 0, slots := 0, locals := 0 } : Room) s m #[(.ref x), (.ref y)] below meth c s₁ [] 0 0 := Stand.of_body Bd
  have e0 : s₁.heap = h0 := by rw [← hh, Bd.state]; rfl
  have N0 := Fr.nil n0
  show own_G p e below s (Q_rmDp10 Z x ca wa y da va kc kw kd kv c0 c1 w0 w1 b1 r1 y1 d0 d1 v0 v1 b2 r2 y2 h0 n0) ({ frames := 0, cells := 0, slots := 0, locals := 0 } : Room).cells ({ frames := 0, cells := 0, slots := 0, locals := 0 } : Room).slots (s₁.setTop (entryFrame m #[(.ref x), (.ref y)] 4))
  rw [ef_rmDp10 m x y]
  obtain ⟨⟨E_x, F_cells, F_writes, F_touched, F_begins, F_returns, F_endsRun⟩, ⟨V_c, V_w⟩, ne1, ne2, ne3⟩ := FP
  obtain ⟨⟨E_x', F_cells', F_writes', F_touched', F_begins', F_returns', F_endsRun'⟩, ⟨V_c', V_w'⟩, ne1', ne2', ne3'⟩ := FQ
  show own_G p e below s _ _ _ (s₁.setTop (mkF m 0 #[.val (.ref x), .val (.ref y), .unset, .unset] []))
  refine own_go (fun _ kk_ => XS.aloadN X0.here hx rfl (hb hby d12_0) rfl rfl kk_) ?_
  show own_G p e below s _ _ _ (s₁.setTop (mkF m 1 #[.val (.ref x), .val (.ref y), .unset, .unset] [(.ref x)]))
  obtain ⟨T1, X1, e1, st1⟩ := getF X0 hx hZ hown (host := "") (Or.inl (hw _ (List.mem_of_getElem? (i := 74) rfl))) Via.refl e0 F_endsRun (g := (mkF m 1 #[.val (.ref x), .val (.ref y), .unset, .unset] [(.ref x)])) rfl rfl (hb hby d12_1)
  refine own_go st1 ?_
  show own_G p e below s _ _ _ (T1.setTop (mkF m 4 #[.val (.ref x), .val (.ref y), .unset, .unset] [(.int y1)]))
  refine own_if_ne X1 hx (pc := 4) (pc' := 42) (hb hby d12_4) (by decide) (by decide) (fun hc4 => ?_) (fun hc4 => ?_)
  · show own_G p e below s _ _ _ (T1.setTop (mkF m 42 #[.val (.ref x), .val (.ref y), .unset, .unset] []))
    refine own_go (fun _ kk_ => XS.iconst X1.here hx rfl (hb hby d12_42) kk_) ?_
    show own_G p e below s _ _ _ (T1.setTop (mkF m 43 #[.val (.ref x), .val (.ref y), .unset, .unset] [(.int (1 : Int32))]))
    exact own_retN (t := .boolean) (ht := by simp) X1 hx Bd.returns (BodyLoose.notSynchronized Bd) (hb hby d12_43) e1 ⟨_, rfl, N0, rfl, Or.inl ⟨rfl, Or.inl hc4⟩⟩ (by decide) (by decide)
  · show own_G p e below s _ _ _ (T1.setTop (mkF m 7 #[.val (.ref x), .val (.ref y), .unset, .unset] []))
    refine own_go (fun _ kk_ => XS.aloadN X1.here hx rfl (hb hby d12_7) rfl rfl kk_) ?_
    show own_G p e below s _ _ _ (T1.setTop (mkF m 8 #[.val (.ref x), .val (.ref y), .unset, .unset] [(.ref y)]))
    obtain ⟨T2, X2, e2, st2⟩ := getF X1 hx hZ hown (host := "") (Or.inl (hw _ (List.mem_of_getElem? (i := 74) rfl))) Via.refl e1 F_endsRun' (g := (mkF m 8 #[.val (.ref x), .val (.ref y), .unset, .unset] [(.ref y)])) rfl rfl (hb hby d12_8)
    refine own_go st2 ?_
    show own_G p e below s _ _ _ (T2.setTop (mkF m 11 #[.val (.ref x), .val (.ref y), .unset, .unset] [(.int y2)]))
    refine own_if_ne X2 hx (pc := 11) (pc' := 42) (hb hby d12_11) (by decide) (by decide) (fun hc11 => ?_) (fun hc11 => ?_)
    · show own_G p e below s _ _ _ (T2.setTop (mkF m 42 #[.val (.ref x), .val (.ref y), .unset, .unset] []))
      refine own_go (fun _ kk_ => XS.iconst X2.here hx rfl (hb hby d12_42) kk_) ?_
      show own_G p e below s _ _ _ (T2.setTop (mkF m 43 #[.val (.ref x), .val (.ref y), .unset, .unset] [(.int (1 : Int32))]))
      exact own_retN (t := .boolean) (ht := by simp) X2 hx Bd.returns (BodyLoose.notSynchronized Bd) (hb hby d12_43) e2 ⟨_, rfl, N0, rfl, Or.inl ⟨rfl, Or.inr (Or.inl hc11)⟩⟩ (by decide) (by decide)
    · suffices J3 : ∀ (T3 : State) (lo3 : List Loc), Stand p l e ({ frames := 0, cells := 0, slots := 0, locals := 0 } : Room) s m #[(.ref x), (.ref y)] below meth c T3 lo3 0 0 → Fr n0 lo3 → T3.heap = h0 → (¬ (¬ b1 = 0 ∧ ¬ r2 = 0)) → own_G p e below s (Q_rmDp10 Z x ca wa y da va kc kw kd kv c0 c1 w0 w1 b1 r1 y1 d0 d1 v0 v1 b2 r2 y2 h0 n0) ({ frames := 0, cells := 0, slots := 0, locals := 0 } : Room).cells ({ frames := 0, cells := 0, slots := 0, locals := 0 } : Room).slots (T3.setTop (mkF m 28 #[.val (.ref x), .val (.ref y), .unset, .unset] [])) by
        show own_G p e below s _ _ _ (T2.setTop (mkF m 14 #[.val (.ref x), .val (.ref y), .unset, .unset] []))
        refine own_go (fun _ kk_ => XS.aloadN X2.here hx rfl (hb hby d12_14) rfl rfl kk_) ?_
        show own_G p e below s _ _ _ (T2.setTop (mkF m 15 #[.val (.ref x), .val (.ref y), .unset, .unset] [(.ref x)]))
        obtain ⟨T4, X4, e4, st4⟩ := getF X2 hx hZ hown (host := "") (Or.inl (hw _ (List.mem_of_getElem? (i := 76) rfl))) Via.refl e2 F_begins (g := (mkF m 15 #[.val (.ref x), .val (.ref y), .unset, .unset] [(.ref x)])) rfl rfl (hb hby d12_15)
        refine own_go st4 ?_
        show own_G p e below s _ _ _ (T4.setTop (mkF m 18 #[.val (.ref x), .val (.ref y), .unset, .unset] [(.int b1)]))
        refine own_if_eq X4 hx (pc := 18) (pc' := 28) (hb hby d12_18) (by decide) (by decide) (fun hc18 => ?_) (fun hc18 => ?_)
        · exact J3 _ _ (X4.more (by decide) (by decide)) N0 e4 (fun q => q.1 hc18)
        · show own_G p e below s _ _ _ (T4.setTop (mkF m 21 #[.val (.ref x), .val (.ref y), .unset, .unset] []))
          refine own_go (fun _ kk_ => XS.aloadN X4.here hx rfl (hb hby d12_21) rfl rfl kk_) ?_
          show own_G p e below s _ _ _ (T4.setTop (mkF m 22 #[.val (.ref x), .val (.ref y), .unset, .unset] [(.ref y)]))
          obtain ⟨T5, X5, e5, st5⟩ := getF X4 hx hZ hown (host := "") (Or.inl (hw _ (List.mem_of_getElem? (i := 78) rfl))) Via.refl e4 F_returns' (g := (mkF m 22 #[.val (.ref x), .val (.ref y), .unset, .unset] [(.ref y)])) rfl rfl (hb hby d12_22)
          refine own_go st5 ?_
          show own_G p e below s _ _ _ (T5.setTop (mkF m 25 #[.val (.ref x), .val (.ref y), .unset, .unset] [(.int r2)]))
          refine own_if_ne X5 hx (pc := 25) (pc' := 42) (hb hby d12_25) (by decide) (by decide) (fun hc25 => ?_) (fun hc25 => ?_)
          · show own_G p e below s _ _ _ (T5.setTop (mkF m 42 #[.val (.ref x), .val (.ref y), .unset, .unset] []))
            refine own_go (fun _ kk_ => XS.iconst X5.here hx rfl (hb hby d12_42) kk_) ?_
            show own_G p e below s _ _ _ (T5.setTop (mkF m 43 #[.val (.ref x), .val (.ref y), .unset, .unset] [(.int (1 : Int32))]))
            exact own_retN (t := .boolean) (ht := by simp) X5 hx Bd.returns (BodyLoose.notSynchronized Bd) (hb hby d12_43) e5 ⟨_, rfl, N0, rfl, Or.inl ⟨rfl, Or.inr (Or.inr (Or.inl ⟨hc18, hc25⟩))⟩⟩ (by decide) (by decide)
          · exact J3 _ _ (X5.more (by decide) (by decide)) N0 e5 (fun q => q.2 hc25)
      intro T3 lo3 X3 N3 e3 hbr
      show own_G p e below s _ _ _ (T3.setTop (mkF m 28 #[.val (.ref x), .val (.ref y), .unset, .unset] []))
      suffices J6 : ∀ (T6 : State) (lo6 : List Loc), Stand p l e ({ frames := 0, cells := 0, slots := 0, locals := 0 } : Room) s m #[(.ref x), (.ref y)] below meth c T6 lo6 0 0 → Fr n0 lo6 → T6.heap = h0 → (¬ (¬ r1 = 0 ∧ ¬ b2 = 0)) → own_G p e below s (Q_rmDp10 Z x ca wa y da va kc kw kd kv c0 c1 w0 w1 b1 r1 y1 d0 d1 v0 v1 b2 r2 y2 h0 n0) ({ frames := 0, cells := 0, slots := 0, locals := 0 } : Room).cells ({ frames := 0, cells := 0, slots := 0, locals := 0 } : Room).slots (T6.setTop (mkF m 44 #[.val (.ref x), .val (.ref y), .unset, .unset] [])) by
        show own_G p e below s _ _ _ (T3.setTop (mkF m 28 #[.val (.ref x), .val (.ref y), .unset, .unset] []))
        refine own_go (fun _ kk_ => XS.aloadN X3.here hx rfl (hb hby d12_28) rfl rfl kk_) ?_
        show own_G p e below s _ _ _ (T3.setTop (mkF m 29 #[.val (.ref x), .val (.ref y), .unset, .unset] [(.ref x)]))
        obtain ⟨T7, X7, e7, st7⟩ := getF X3 hx hZ hown (host := "") (Or.inl (hw _ (List.mem_of_getElem? (i := 78) rfl))) Via.refl e3 F_returns (g := (mkF m 29 #[.val (.ref x), .val (.ref y), .unset, .unset] [(.ref x)])) rfl rfl (hb hby d12_29)
        refine own_go st7 ?_
        show own_G p e below s _ _ _ (T7.setTop (mkF m 32 #[.val (.ref x), .val (.ref y), .unset, .unset] [(.int r1)]))
        refine own_if_eq X7 hx (pc := 32) (pc' := 44) (hb hby d12_32) (by decide) (by decide) (fun hc32 => ?_) (fun hc32 => ?_)
        · exact J6 _ _ (X7.more (by decide) (by decide)) N3 e7 (fun q => q.1 hc32)
        · show own_G p e below s _ _ _ (T7.setTop (mkF m 35 #[.val (.ref x), .val (.ref y), .unset, .unset] []))
          refine own_go (fun _ kk_ => XS.aloadN X7.here hx rfl (hb hby d12_35) rfl rfl kk_) ?_
          show own_G p e below s _ _ _ (T7.setTop (mkF m 36 #[.val (.ref x), .val (.ref y), .unset, .unset] [(.ref y)]))
          obtain ⟨T8, X8, e8, st8⟩ := getF X7 hx hZ hown (host := "") (Or.inl (hw _ (List.mem_of_getElem? (i := 76) rfl))) Via.refl e7 F_begins' (g := (mkF m 36 #[.val (.ref x), .val (.ref y), .unset, .unset] [(.ref y)])) rfl rfl (hb hby d12_36)
          refine own_go st8 ?_
          show own_G p e below s _ _ _ (T8.setTop (mkF m 39 #[.val (.ref x), .val (.ref y), .unset, .unset] [(.int b2)]))
          refine own_if_eq X8 hx (pc := 39) (pc' := 44) (hb hby d12_39) (by decide) (by decide) (fun hc39 => ?_) (fun hc39 => ?_)
          · exact J6 _ _ (X8.more (by decide) (by decide)) N3 e8 (fun q => q.2 hc39)
          · show own_G p e below s _ _ _ (T8.setTop (mkF m 42 #[.val (.ref x), .val (.ref y), .unset, .unset] []))
            refine own_go (fun _ kk_ => XS.iconst X8.here hx rfl (hb hby d12_42) kk_) ?_
            show own_G p e below s _ _ _ (T8.setTop (mkF m 43 #[.val (.ref x), .val (.ref y), .unset, .unset] [(.int (1 : Int32))]))
            exact own_retN (t := .boolean) (ht := by simp) X8 hx Bd.returns (BodyLoose.notSynchronized Bd) (hb hby d12_43) e8 ⟨_, rfl, N3, rfl, Or.inl ⟨rfl, Or.inr (Or.inr (Or.inr (Or.inl ⟨hc32, hc39⟩)))⟩⟩ (by decide) (by decide)
      intro T6 lo6 X6 N6 e6 hrb
      show own_G p e below s _ _ _ (T6.setTop (mkF m 44 #[.val (.ref x), .val (.ref y), .unset, .unset] []))
      show own_G p e below s _ _ _ (T6.setTop (mkF m 44 #[.val (.ref x), .val (.ref y), .unset, .unset] []))
      refine own_go (fun _ kk_ => XS.iconst X6.here hx rfl (hb hby d12_44) kk_) ?_
      show own_G p e below s _ _ _ (T6.setTop (mkF m 45 #[.val (.ref x), .val (.ref y), .unset, .unset] [(.int (0 : Int32))]))
      refine own_go (fun _ kk_ => XS.istoreN X6.here hx rfl (hb hby d12_45) rfl (l' := #[.val (.ref x), .val (.ref y), .val (.int (0 : Int32)), .unset]) rfl kk_) ?_
      show own_G p e below s _ _ _ (T6.setTop (mkF m 46 #[.val (.ref x), .val (.ref y), .val (.int (0 : Int32)), .unset] []))
      refine own_go (fun _ kk_ => XS.iloadN X6.here hx rfl (hb hby d12_46) rfl kk_) ?_
      show own_G p e below s _ _ _ (T6.setTop (mkF m 47 #[.val (.ref x), .val (.ref y), .val (.int (0 : Int32)), .unset] [(.int (0 : Int32))]))
      refine own_go (fun _ kk_ => XS.aloadN X6.here hx rfl (hb hby d12_47) rfl rfl kk_) ?_
      show own_G p e below s _ _ _ (T6.setTop (mkF m 48 #[.val (.ref x), .val (.ref y), .val (.int (0 : Int32)), .unset] [(.ref x), (.int (0 : Int32))]))
      obtain ⟨T9, X9, e9, st9⟩ := getF X6 hx hZ hown (host := "") (Or.inl (hw _ (List.mem_of_getElem? (i := 80) rfl))) Via.refl e6 F_touched (g := (mkF m 48 #[.val (.ref x), .val (.ref y), .val (.int (0 : Int32)), .unset] [(.ref x), (.int (0 : Int32))])) rfl rfl (hb hby d12_48)
      refine own_go st9 ?_
      show own_G p e below s _ _ _ (T9.setTop (mkF m 51 #[.val (.ref x), .val (.ref y), .val (.int (0 : Int32)), .unset] [(.int (1 : Int32)), (.int (0 : Int32))]))
      refine own_ic_geN X9 hx (pc := 51) (hb hby d12_51) (by decide) ?_
      show own_G p e below s _ _ _ (T9.setTop (mkF m 54 #[.val (.ref x), .val (.ref y), .val (.int (0 : Int32)), .unset] []))
      refine own_go (fun _ kk_ => XS.iconst X9.here hx rfl (hb hby d12_54) kk_) ?_
      show own_G p e below s _ _ _ (T9.setTop (mkF m 55 #[.val (.ref x), .val (.ref y), .val (.int (0 : Int32)), .unset] [(.int (0 : Int32))]))
      refine own_go (fun _ kk_ => XS.istoreN X9.here hx rfl (hb hby d12_55) rfl (l' := #[.val (.ref x), .val (.ref y), .val (.int (0 : Int32)), .val (.int (0 : Int32))]) rfl kk_) ?_
      show own_G p e below s _ _ _ (T9.setTop (mkF m 56 #[.val (.ref x), .val (.ref y), .val (.int (0 : Int32)), .val (.int (0 : Int32))] []))
      refine own_go (fun _ kk_ => XS.iloadN X9.here hx rfl (hb hby d12_56) rfl kk_) ?_
      show own_G p e below s _ _ _ (T9.setTop (mkF m 57 #[.val (.ref x), .val (.ref y), .val (.int (0 : Int32)), .val (.int (0 : Int32))] [(.int (0 : Int32))]))
      refine own_go (fun _ kk_ => XS.aloadN X9.here hx rfl (hb hby d12_57) rfl rfl kk_) ?_
      show own_G p e below s _ _ _ (T9.setTop (mkF m 58 #[.val (.ref x), .val (.ref y), .val (.int (0 : Int32)), .val (.int (0 : Int32))] [(.ref y), (.int (0 : Int32))]))
      obtain ⟨T10, X10, e10, st10⟩ := getF X9 hx hZ hown (host := "") (Or.inl (hw _ (List.mem_of_getElem? (i := 80) rfl))) Via.refl e9 F_touched' (g := (mkF m 58 #[.val (.ref x), .val (.ref y), .val (.int (0 : Int32)), .val (.int (0 : Int32))] [(.ref y), (.int (0 : Int32))])) rfl rfl (hb hby d12_58)
      refine own_go st10 ?_
      show own_G p e below s _ _ _ (T10.setTop (mkF m 61 #[.val (.ref x), .val (.ref y), .val (.int (0 : Int32)), .val (.int (0 : Int32))] [(.int (0 : Int32)), (.int (0 : Int32))]))
      refine own_ic_geY X10 hx (pc := 61) (pc' := 105) (hb hby d12_61) (by decide) (by decide) (by decide) ?_
      show own_G p e below s _ _ _ (T10.setTop (mkF m 105 #[.val (.ref x), .val (.ref y), .val (.int (0 : Int32)), .val (.int (0 : Int32))] []))
      refine own_go (fun _ kk_ => XS.iinc X10.here hx rfl (hb hby d12_105) rfl (l' := #[.val (.ref x), .val (.ref y), .val (.int (1 : Int32)), .val (.int (0 : Int32))]) rfl kk_) ?_
      show own_G p e below s _ _ _ (T10.setTop (mkF m 108 #[.val (.ref x), .val (.ref y), .val (.int (1 : Int32)), .val (.int (0 : Int32))] []))
      refine own_go (fun _ kk_ => XS.goto X10.here hx rfl (pc0 := 108) (pc' := 46) rfl (hb hby d12_108) (by decide) (by decide) kk_) ?_
      show own_G p e below s _ _ _ (T10.setTop (mkF m 46 #[.val (.ref x), .val (.ref y), .val (.int (1 : Int32)), .val (.int (0 : Int32))] []))
      refine own_go (fun _ kk_ => XS.iloadN X10.here hx rfl (hb hby d12_46) rfl kk_) ?_
      show own_G p e below s _ _ _ (T10.setTop (mkF m 47 #[.val (.ref x), .val (.ref y), .val (.int (1 : Int32)), .val (.int (0 : Int32))] [(.int (1 : Int32))]))
      refine own_go (fun _ kk_ => XS.aloadN X10.here hx rfl (hb hby d12_47) rfl rfl kk_) ?_
      show own_G p e below s _ _ _ (T10.setTop (mkF m 48 #[.val (.ref x), .val (.ref y), .val (.int (1 : Int32)), .val (.int (0 : Int32))] [(.ref x), (.int (1 : Int32))]))
      obtain ⟨T11, X11, e11, st11⟩ := getF X10 hx hZ hown (host := "") (Or.inl (hw _ (List.mem_of_getElem? (i := 80) rfl))) Via.refl e10 F_touched (g := (mkF m 48 #[.val (.ref x), .val (.ref y), .val (.int (1 : Int32)), .val (.int (0 : Int32))] [(.ref x), (.int (1 : Int32))])) rfl rfl (hb hby d12_48)
      refine own_go st11 ?_
      show own_G p e below s _ _ _ (T11.setTop (mkF m 51 #[.val (.ref x), .val (.ref y), .val (.int (1 : Int32)), .val (.int (0 : Int32))] [(.int (1 : Int32)), (.int (1 : Int32))]))
      refine own_ic_geY X11 hx (pc := 51) (pc' := 111) (hb hby d12_51) (by decide) (by decide) (by decide) ?_
      show own_G p e below s _ _ _ (T11.setTop (mkF m 111 #[.val (.ref x), .val (.ref y), .val (.int (1 : Int32)), .val (.int (0 : Int32))] []))
      refine own_go (fun _ kk_ => XS.iconst X11.here hx rfl (hb hby d12_111) kk_) ?_
      show own_G p e below s _ _ _ (T11.setTop (mkF m 112 #[.val (.ref x), .val (.ref y), .val (.int (1 : Int32)), .val (.int (0 : Int32))] [(.int (0 : Int32))]))
      exact own_retN (t := .boolean) (ht := by simp) X11 hx Bd.returns (BodyLoose.notSynchronized Bd) (hb hby d12_112) e11 ⟨_, rfl, N6, rfl, Or.inr ⟨rfl, own_Dno hc4 hc11 hbr hrb (fun q => q.elim (fun q => absurd q.2.1 (by decide)) (fun q => q.elim (fun q => absurd q.2.1 (by decide)) (fun q => q.elim (fun q => absurd q.1 (by decide)) (fun q => absurd q.1 (by decide)))))⟩⟩ (by decide) (by decide)
theorem d12_64 : decode prog_47_method_13_code 64 = .ok (.aload_n 0, 1) := by decide +kernel
theorem d12_65 : decode prog_47_method_13_code 65 = .ok (.getfield 16, 3) := by decide +kernel
theorem d12_68 : decode prog_47_method_13_code 68 = .ok (.iload_n 2, 1) := by decide +kernel
theorem d12_69 : decode prog_47_method_13_code 69 = .ok (.iaload, 1) := by decide +kernel
theorem d12_70 : decode prog_47_method_13_code 70 = .ok (.aload_n 1, 1) := by decide +kernel
theorem d12_71 : decode prog_47_method_13_code 71 = .ok (.getfield 16, 3) := by decide +kernel
theorem d12_74 : decode prog_47_method_13_code 74 = .ok (.iload_n 3, 1) := by decide +kernel
theorem d12_75 : decode prog_47_method_13_code 75 = .ok (.iaload, 1) := by decide +kernel
theorem d12_76 : decode prog_47_method_13_code 76 = .ok (.if_icmp .ne 23, 3) := by decide +kernel
theorem d12_79 : decode prog_47_method_13_code 79 = .ok (.aload_n 0, 1) := by decide +kernel
theorem d12_80 : decode prog_47_method_13_code 80 = .ok (.getfield 20, 3) := by decide +kernel
theorem d12_83 : decode prog_47_method_13_code 83 = .ok (.iload_n 2, 1) := by decide +kernel
theorem d12_84 : decode prog_47_method_13_code 84 = .ok (.baload, 1) := by decide +kernel
theorem d12_85 : decode prog_47_method_13_code 85 = .ok (.ifCond .ne 12, 3) := by decide +kernel
theorem d12_88 : decode prog_47_method_13_code 88 = .ok (.aload_n 1, 1) := by decide +kernel
theorem d12_89 : decode prog_47_method_13_code 89 = .ok (.getfield 20, 3) := by decide +kernel
theorem d12_92 : decode prog_47_method_13_code 92 = .ok (.iload_n 3, 1) := by decide +kernel
theorem d12_93 : decode prog_47_method_13_code 93 = .ok (.baload, 1) := by decide +kernel
theorem d12_94 : decode prog_47_method_13_code 94 = .ok (.ifCond .eq 5, 3) := by decide +kernel
theorem d12_97 : decode prog_47_method_13_code 97 = .ok (.iconst 1, 1) := by decide +kernel
theorem d12_98 : decode prog_47_method_13_code 98 = .ok (.ireturn, 1) := by decide +kernel
theorem d12_99 : decode prog_47_method_13_code 99 = .ok (.iinc 3 1, 3) := by decide +kernel
theorem d12_102 : decode prog_47_method_13_code 102 = .ok (.goto (-46), 3) := by decide +kernel
theorem ef_rmDp11 (m : MethodId) (x0 : Addr) (x1 : Addr) : entryFrame m #[(.ref x0), (.ref x1)] 4 = mkF m 0 #[.val (.ref x0), .val (.ref x1), .unset, .unset] [] := by first | (simp [entryFrame, mkF, argsToLocals, Value.category]; done) | rfl
def Q_rmDp11 (Z : State) (x ca wa y da va : Addr) (kc kw kd kv : ClassId) (c0 c1 w0 w1 b1 r1 y1 d0 d1 v0 v1 b2 r2 y2 : Int32) (h0 : Heap) (n0 : Nat) : Option Value → Heap → List Loc → Prop := fun v h L => ∃ B : Int32, v = some (.int B) ∧ Fr n0 L ∧ h = h0 ∧ ((B = 1 ∧ (own_D y1 y2 b1 r1 b2 r2 (own_C 1 1 c0 c1 w0 w1 d0 d1 v0 v1))) ∨ (B = 0 ∧ ¬ (own_D y1 y2 b1 r1 b2 r2 (own_C 1 1 c0 c1 w0 w1 d0 d1 v0 v1))))
set_option maxRecDepth 65536 in
set_option maxHeartbeats 40000000 in
theorem rmDp11 (l : Launch) (Z : State) (a0 : Array Value) (hw : ∀ d ∈ tables_1, d.before a0 Z = true) (ws : List Jvm.Cond) (x ca wa y da va : Addr) (kc kw kd kv : ClassId) (c0 c1 w0 w1 b1 r1 y1 d0 d1 v0 v1 b2 r2 y2 : Int32) (h0 : Heap) (n0 : Nat) (Z0 : n0 ≤ h0.size) (FP : own_FP Z h0 x ca wa kc kw 1 c0 c1 w0 w1 b1 r1 y1) (FQ : own_FP Z h0 y da va kd kv 1 d0 d1 v0 v1 b2 r2 y2) :
    MetFree l (⟨"com/example/relyguard/relyguard/Footprint", "dependsOn", "(Lcom/example/relyguard/relyguard/Footprint;)Z"⟩ : MethodName) (head1 (Jvm.Cond.code (⟨"com/example/relyguard/relyguard/Footprint", "dependsOn", "(Lcom/example/relyguard/relyguard/Footprint;)Z"⟩ : MethodName) prog_47_method_13_code 4 (some .boolean) :: ws) ({ frames := 0, cells := 0, slots := 0, locals := 0 } : Room)) (fun as_ U => as_ = #[(.ref x), (.ref y)] ∧ Z.Warmed39 U.vm ∧ U.heap = h0) (fun _ _ _ _ _ => True) (fun _ U o U' => ∃ v L, o = .returned v ∧ (Q_rmDp11 Z x ca wa y da va kc kw kd kv c0 c1 w0 w1 b1 r1 y1 d0 d1 v0 v1 b2 r2 y2 h0 n0) v U'.heap L ∧ FrameEnd U o U' L ({ frames := 0, cells := 0, slots := 0, locals := 0 } : Room).cells ({ frames := 0, cells := 0, slots := 0, locals := 0 } : Room).slots) := by
  refine MetFree.of_bodySF (plainFor_of_name pn_2) hisR ?_
  intro p e s m args below meth c s₁ Bd hml0 hP hK
  obtain ⟨rfl, hZ, hh⟩ := hP
  have hx := Bd.exec
  have hby := Bd.bytes
  have hml : c.maxLocals = 4 := hml0
  have hown : s.vm.findClass "com/example/relyguard/relyguard/Footprint" = some m.cls := findClass_of_methodNamed Bd.named
  have hnm := (name_of_methodNamed Bd.named Bd.method).1
  have X0 : Stand p l e ({ frames := 0, cells := 0, slots := 0, locals := 0 } : Room) s m #[(.ref x), (.ref y)] below meth c s₁ [] 0 0 := Stand.of_body Bd
  have e0 : s₁.heap = h0 := by rw [← hh, Bd.state]; rfl
  have N0 := Fr.nil n0
  show own_G p e below s (Q_rmDp11 Z x ca wa y da va kc kw kd kv c0 c1 w0 w1 b1 r1 y1 d0 d1 v0 v1 b2 r2 y2 h0 n0) ({ frames := 0, cells := 0, slots := 0, locals := 0 } : Room).cells ({ frames := 0, cells := 0, slots := 0, locals := 0 } : Room).slots (s₁.setTop (entryFrame m #[(.ref x), (.ref y)] 4))
  rw [ef_rmDp11 m x y]
  obtain ⟨⟨E_x, F_cells, F_writes, F_touched, F_begins, F_returns, F_endsRun⟩, ⟨V_c, V_w⟩, ne1, ne2, ne3⟩ := FP
  obtain ⟨⟨E_x', F_cells', F_writes', F_touched', F_begins', F_returns', F_endsRun'⟩, ⟨V_c', V_w'⟩, ne1', ne2', ne3'⟩ := FQ
  show own_G p e below s _ _ _ (s₁.setTop (mkF m 0 #[.val (.ref x), .val (.ref y), .unset, .unset] []))
  refine own_go (fun _ kk_ => XS.aloadN X0.here hx rfl (hb hby d12_0) rfl rfl kk_) ?_
  show own_G p e below s _ _ _ (s₁.setTop (mkF m 1 #[.val (.ref x), .val (.ref y), .unset, .unset] [(.ref x)]))
  obtain ⟨T1, X1, e1, st1⟩ := getF X0 hx hZ hown (host := "") (Or.inl (hw _ (List.mem_of_getElem? (i := 74) rfl))) Via.refl e0 F_endsRun (g := (mkF m 1 #[.val (.ref x), .val (.ref y), .unset, .unset] [(.ref x)])) rfl rfl (hb hby d12_1)
  refine own_go st1 ?_
  show own_G p e below s _ _ _ (T1.setTop (mkF m 4 #[.val (.ref x), .val (.ref y), .unset, .unset] [(.int y1)]))
  refine own_if_ne X1 hx (pc := 4) (pc' := 42) (hb hby d12_4) (by decide) (by decide) (fun hc4 => ?_) (fun hc4 => ?_)
  · show own_G p e below s _ _ _ (T1.setTop (mkF m 42 #[.val (.ref x), .val (.ref y), .unset, .unset] []))
    refine own_go (fun _ kk_ => XS.iconst X1.here hx rfl (hb hby d12_42) kk_) ?_
    show own_G p e below s _ _ _ (T1.setTop (mkF m 43 #[.val (.ref x), .val (.ref y), .unset, .unset] [(.int (1 : Int32))]))
    exact own_retN (t := .boolean) (ht := by simp) X1 hx Bd.returns (BodyLoose.notSynchronized Bd) (hb hby d12_43) e1 ⟨_, rfl, N0, rfl, Or.inl ⟨rfl, Or.inl hc4⟩⟩ (by decide) (by decide)
  · show own_G p e below s _ _ _ (T1.setTop (mkF m 7 #[.val (.ref x), .val (.ref y), .unset, .unset] []))
    refine own_go (fun _ kk_ => XS.aloadN X1.here hx rfl (hb hby d12_7) rfl rfl kk_) ?_
    show own_G p e below s _ _ _ (T1.setTop (mkF m 8 #[.val (.ref x), .val (.ref y), .unset, .unset] [(.ref y)]))
    obtain ⟨T2, X2, e2, st2⟩ := getF X1 hx hZ hown (host := "") (Or.inl (hw _ (List.mem_of_getElem? (i := 74) rfl))) Via.refl e1 F_endsRun' (g := (mkF m 8 #[.val (.ref x), .val (.ref y), .unset, .unset] [(.ref y)])) rfl rfl (hb hby d12_8)
    refine own_go st2 ?_
    show own_G p e below s _ _ _ (T2.setTop (mkF m 11 #[.val (.ref x), .val (.ref y), .unset, .unset] [(.int y2)]))
    refine own_if_ne X2 hx (pc := 11) (pc' := 42) (hb hby d12_11) (by decide) (by decide) (fun hc11 => ?_) (fun hc11 => ?_)
    · show own_G p e below s _ _ _ (T2.setTop (mkF m 42 #[.val (.ref x), .val (.ref y), .unset, .unset] []))
      refine own_go (fun _ kk_ => XS.iconst X2.here hx rfl (hb hby d12_42) kk_) ?_
      show own_G p e below s _ _ _ (T2.setTop (mkF m 43 #[.val (.ref x), .val (.ref y), .unset, .unset] [(.int (1 : Int32))]))
      exact own_retN (t := .boolean) (ht := by simp) X2 hx Bd.returns (BodyLoose.notSynchronized Bd) (hb hby d12_43) e2 ⟨_, rfl, N0, rfl, Or.inl ⟨rfl, Or.inr (Or.inl hc11)⟩⟩ (by decide) (by decide)
    · suffices J3 : ∀ (T3 : State) (lo3 : List Loc), Stand p l e ({ frames := 0, cells := 0, slots := 0, locals := 0 } : Room) s m #[(.ref x), (.ref y)] below meth c T3 lo3 0 0 → Fr n0 lo3 → T3.heap = h0 → (¬ (¬ b1 = 0 ∧ ¬ r2 = 0)) → own_G p e below s (Q_rmDp11 Z x ca wa y da va kc kw kd kv c0 c1 w0 w1 b1 r1 y1 d0 d1 v0 v1 b2 r2 y2 h0 n0) ({ frames := 0, cells := 0, slots := 0, locals := 0 } : Room).cells ({ frames := 0, cells := 0, slots := 0, locals := 0 } : Room).slots (T3.setTop (mkF m 28 #[.val (.ref x), .val (.ref y), .unset, .unset] [])) by
        show own_G p e below s _ _ _ (T2.setTop (mkF m 14 #[.val (.ref x), .val (.ref y), .unset, .unset] []))
        refine own_go (fun _ kk_ => XS.aloadN X2.here hx rfl (hb hby d12_14) rfl rfl kk_) ?_
        show own_G p e below s _ _ _ (T2.setTop (mkF m 15 #[.val (.ref x), .val (.ref y), .unset, .unset] [(.ref x)]))
        obtain ⟨T4, X4, e4, st4⟩ := getF X2 hx hZ hown (host := "") (Or.inl (hw _ (List.mem_of_getElem? (i := 76) rfl))) Via.refl e2 F_begins (g := (mkF m 15 #[.val (.ref x), .val (.ref y), .unset, .unset] [(.ref x)])) rfl rfl (hb hby d12_15)
        refine own_go st4 ?_
        show own_G p e below s _ _ _ (T4.setTop (mkF m 18 #[.val (.ref x), .val (.ref y), .unset, .unset] [(.int b1)]))
        refine own_if_eq X4 hx (pc := 18) (pc' := 28) (hb hby d12_18) (by decide) (by decide) (fun hc18 => ?_) (fun hc18 => ?_)
        · exact J3 _ _ (X4.more (by decide) (by decide)) N0 e4 (fun q => q.1 hc18)
        · show own_G p e below s _ _ _ (T4.setTop (mkF m 21 #[.val (.ref x), .val (.ref y), .unset, .unset] []))
          refine own_go (fun _ kk_ => XS.aloadN X4.here hx rfl (hb hby d12_21) rfl rfl kk_) ?_
          show own_G p e below s _ _ _ (T4.setTop (mkF m 22 #[.val (.ref x), .val (.ref y), .unset, .unset] [(.ref y)]))
          obtain ⟨T5, X5, e5, st5⟩ := getF X4 hx hZ hown (host := "") (Or.inl (hw _ (List.mem_of_getElem? (i := 78) rfl))) Via.refl e4 F_returns' (g := (mkF m 22 #[.val (.ref x), .val (.ref y), .unset, .unset] [(.ref y)])) rfl rfl (hb hby d12_22)
          refine own_go st5 ?_
          show own_G p e below s _ _ _ (T5.setTop (mkF m 25 #[.val (.ref x), .val (.ref y), .unset, .unset] [(.int r2)]))
          refine own_if_ne X5 hx (pc := 25) (pc' := 42) (hb hby d12_25) (by decide) (by decide) (fun hc25 => ?_) (fun hc25 => ?_)
          · show own_G p e below s _ _ _ (T5.setTop (mkF m 42 #[.val (.ref x), .val (.ref y), .unset, .unset] []))
            refine own_go (fun _ kk_ => XS.iconst X5.here hx rfl (hb hby d12_42) kk_) ?_
            show own_G p e below s _ _ _ (T5.setTop (mkF m 43 #[.val (.ref x), .val (.ref y), .unset, .unset] [(.int (1 : Int32))]))
            exact own_retN (t := .boolean) (ht := by simp) X5 hx Bd.returns (BodyLoose.notSynchronized Bd) (hb hby d12_43) e5 ⟨_, rfl, N0, rfl, Or.inl ⟨rfl, Or.inr (Or.inr (Or.inl ⟨hc18, hc25⟩))⟩⟩ (by decide) (by decide)
          · exact J3 _ _ (X5.more (by decide) (by decide)) N0 e5 (fun q => q.2 hc25)
      intro T3 lo3 X3 N3 e3 hbr
      show own_G p e below s _ _ _ (T3.setTop (mkF m 28 #[.val (.ref x), .val (.ref y), .unset, .unset] []))
      suffices J6 : ∀ (T6 : State) (lo6 : List Loc), Stand p l e ({ frames := 0, cells := 0, slots := 0, locals := 0 } : Room) s m #[(.ref x), (.ref y)] below meth c T6 lo6 0 0 → Fr n0 lo6 → T6.heap = h0 → (¬ (¬ r1 = 0 ∧ ¬ b2 = 0)) → own_G p e below s (Q_rmDp11 Z x ca wa y da va kc kw kd kv c0 c1 w0 w1 b1 r1 y1 d0 d1 v0 v1 b2 r2 y2 h0 n0) ({ frames := 0, cells := 0, slots := 0, locals := 0 } : Room).cells ({ frames := 0, cells := 0, slots := 0, locals := 0 } : Room).slots (T6.setTop (mkF m 44 #[.val (.ref x), .val (.ref y), .unset, .unset] [])) by
        show own_G p e below s _ _ _ (T3.setTop (mkF m 28 #[.val (.ref x), .val (.ref y), .unset, .unset] []))
        refine own_go (fun _ kk_ => XS.aloadN X3.here hx rfl (hb hby d12_28) rfl rfl kk_) ?_
        show own_G p e below s _ _ _ (T3.setTop (mkF m 29 #[.val (.ref x), .val (.ref y), .unset, .unset] [(.ref x)]))
        obtain ⟨T7, X7, e7, st7⟩ := getF X3 hx hZ hown (host := "") (Or.inl (hw _ (List.mem_of_getElem? (i := 78) rfl))) Via.refl e3 F_returns (g := (mkF m 29 #[.val (.ref x), .val (.ref y), .unset, .unset] [(.ref x)])) rfl rfl (hb hby d12_29)
        refine own_go st7 ?_
        show own_G p e below s _ _ _ (T7.setTop (mkF m 32 #[.val (.ref x), .val (.ref y), .unset, .unset] [(.int r1)]))
        refine own_if_eq X7 hx (pc := 32) (pc' := 44) (hb hby d12_32) (by decide) (by decide) (fun hc32 => ?_) (fun hc32 => ?_)
        · exact J6 _ _ (X7.more (by decide) (by decide)) N3 e7 (fun q => q.1 hc32)
        · show own_G p e below s _ _ _ (T7.setTop (mkF m 35 #[.val (.ref x), .val (.ref y), .unset, .unset] []))
          refine own_go (fun _ kk_ => XS.aloadN X7.here hx rfl (hb hby d12_35) rfl rfl kk_) ?_
          show own_G p e below s _ _ _ (T7.setTop (mkF m 36 #[.val (.ref x), .val (.ref y), .unset, .unset] [(.ref y)]))
          obtain ⟨T8, X8, e8, st8⟩ := getF X7 hx hZ hown (host := "") (Or.inl (hw _ (List.mem_of_getElem? (i := 76) rfl))) Via.refl e7 F_begins' (g := (mkF m 36 #[.val (.ref x), .val (.ref y), .unset, .unset] [(.ref y)])) rfl rfl (hb hby d12_36)
          refine own_go st8 ?_
          show own_G p e below s _ _ _ (T8.setTop (mkF m 39 #[.val (.ref x), .val (.ref y), .unset, .unset] [(.int b2)]))
          refine own_if_eq X8 hx (pc := 39) (pc' := 44) (hb hby d12_39) (by decide) (by decide) (fun hc39 => ?_) (fun hc39 => ?_)
          · exact J6 _ _ (X8.more (by decide) (by decide)) N3 e8 (fun q => q.2 hc39)
          · show own_G p e below s _ _ _ (T8.setTop (mkF m 42 #[.val (.ref x), .val (.ref y), .unset, .unset] []))
            refine own_go (fun _ kk_ => XS.iconst X8.here hx rfl (hb hby d12_42) kk_) ?_
            show own_G p e below s _ _ _ (T8.setTop (mkF m 43 #[.val (.ref x), .val (.ref y), .unset, .unset] [(.int (1 : Int32))]))
            exact own_retN (t := .boolean) (ht := by simp) X8 hx Bd.returns (BodyLoose.notSynchronized Bd) (hb hby d12_43) e8 ⟨_, rfl, N3, rfl, Or.inl ⟨rfl, Or.inr (Or.inr (Or.inr (Or.inl ⟨hc32, hc39⟩)))⟩⟩ (by decide) (by decide)
      intro T6 lo6 X6 N6 e6 hrb
      show own_G p e below s _ _ _ (T6.setTop (mkF m 44 #[.val (.ref x), .val (.ref y), .unset, .unset] []))
      suffices J9 : ∀ (T9 : State) (lo9 : List Loc), Stand p l e ({ frames := 0, cells := 0, slots := 0, locals := 0 } : Room) s m #[(.ref x), (.ref y)] below meth c T9 lo9 0 0 → Fr n0 lo9 → T9.heap = h0 → (¬ own_cf c0 w0 d0 v0) → own_G p e below s (Q_rmDp11 Z x ca wa y da va kc kw kd kv c0 c1 w0 w1 b1 r1 y1 d0 d1 v0 v1 b2 r2 y2 h0 n0) ({ frames := 0, cells := 0, slots := 0, locals := 0 } : Room).cells ({ frames := 0, cells := 0, slots := 0, locals := 0 } : Room).slots (T9.setTop (mkF m 99 #[.val (.ref x), .val (.ref y), .val (.int (0 : Int32)), .val (.int (0 : Int32))] [])) by
        show own_G p e below s _ _ _ (T6.setTop (mkF m 44 #[.val (.ref x), .val (.ref y), .unset, .unset] []))
        refine own_go (fun _ kk_ => XS.iconst X6.here hx rfl (hb hby d12_44) kk_) ?_
        show own_G p e below s _ _ _ (T6.setTop (mkF m 45 #[.val (.ref x), .val (.ref y), .unset, .unset] [(.int (0 : Int32))]))
        refine own_go (fun _ kk_ => XS.istoreN X6.here hx rfl (hb hby d12_45) rfl (l' := #[.val (.ref x), .val (.ref y), .val (.int (0 : Int32)), .unset]) rfl kk_) ?_
        show own_G p e below s _ _ _ (T6.setTop (mkF m 46 #[.val (.ref x), .val (.ref y), .val (.int (0 : Int32)), .unset] []))
        refine own_go (fun _ kk_ => XS.iloadN X6.here hx rfl (hb hby d12_46) rfl kk_) ?_
        show own_G p e below s _ _ _ (T6.setTop (mkF m 47 #[.val (.ref x), .val (.ref y), .val (.int (0 : Int32)), .unset] [(.int (0 : Int32))]))
        refine own_go (fun _ kk_ => XS.aloadN X6.here hx rfl (hb hby d12_47) rfl rfl kk_) ?_
        show own_G p e below s _ _ _ (T6.setTop (mkF m 48 #[.val (.ref x), .val (.ref y), .val (.int (0 : Int32)), .unset] [(.ref x), (.int (0 : Int32))]))
        obtain ⟨T10, X10, e10, st10⟩ := getF X6 hx hZ hown (host := "") (Or.inl (hw _ (List.mem_of_getElem? (i := 80) rfl))) Via.refl e6 F_touched (g := (mkF m 48 #[.val (.ref x), .val (.ref y), .val (.int (0 : Int32)), .unset] [(.ref x), (.int (0 : Int32))])) rfl rfl (hb hby d12_48)
        refine own_go st10 ?_
        show own_G p e below s _ _ _ (T10.setTop (mkF m 51 #[.val (.ref x), .val (.ref y), .val (.int (0 : Int32)), .unset] [(.int (1 : Int32)), (.int (0 : Int32))]))
        refine own_ic_geN X10 hx (pc := 51) (hb hby d12_51) (by decide) ?_
        show own_G p e below s _ _ _ (T10.setTop (mkF m 54 #[.val (.ref x), .val (.ref y), .val (.int (0 : Int32)), .unset] []))
        refine own_go (fun _ kk_ => XS.iconst X10.here hx rfl (hb hby d12_54) kk_) ?_
        show own_G p e below s _ _ _ (T10.setTop (mkF m 55 #[.val (.ref x), .val (.ref y), .val (.int (0 : Int32)), .unset] [(.int (0 : Int32))]))
        refine own_go (fun _ kk_ => XS.istoreN X10.here hx rfl (hb hby d12_55) rfl (l' := #[.val (.ref x), .val (.ref y), .val (.int (0 : Int32)), .val (.int (0 : Int32))]) rfl kk_) ?_
        show own_G p e below s _ _ _ (T10.setTop (mkF m 56 #[.val (.ref x), .val (.ref y), .val (.int (0 : Int32)), .val (.int (0 : Int32))] []))
        refine own_go (fun _ kk_ => XS.iloadN X10.here hx rfl (hb hby d12_56) rfl kk_) ?_
        show own_G p e below s _ _ _ (T10.setTop (mkF m 57 #[.val (.ref x), .val (.ref y), .val (.int (0 : Int32)), .val (.int (0 : Int32))] [(.int (0 : Int32))]))
        refine own_go (fun _ kk_ => XS.aloadN X10.here hx rfl (hb hby d12_57) rfl rfl kk_) ?_
        show own_G p e below s _ _ _ (T10.setTop (mkF m 58 #[.val (.ref x), .val (.ref y), .val (.int (0 : Int32)), .val (.int (0 : Int32))] [(.ref y), (.int (0 : Int32))]))
        obtain ⟨T11, X11, e11, st11⟩ := getF X10 hx hZ hown (host := "") (Or.inl (hw _ (List.mem_of_getElem? (i := 80) rfl))) Via.refl e10 F_touched' (g := (mkF m 58 #[.val (.ref x), .val (.ref y), .val (.int (0 : Int32)), .val (.int (0 : Int32))] [(.ref y), (.int (0 : Int32))])) rfl rfl (hb hby d12_58)
        refine own_go st11 ?_
        show own_G p e below s _ _ _ (T11.setTop (mkF m 61 #[.val (.ref x), .val (.ref y), .val (.int (0 : Int32)), .val (.int (0 : Int32))] [(.int (1 : Int32)), (.int (0 : Int32))]))
        refine own_ic_geN X11 hx (pc := 61) (hb hby d12_61) (by decide) ?_
        show own_G p e below s _ _ _ (T11.setTop (mkF m 64 #[.val (.ref x), .val (.ref y), .val (.int (0 : Int32)), .val (.int (0 : Int32))] []))
        refine own_go (fun _ kk_ => XS.aloadN X11.here hx rfl (hb hby d12_64) rfl rfl kk_) ?_
        show own_G p e below s _ _ _ (T11.setTop (mkF m 65 #[.val (.ref x), .val (.ref y), .val (.int (0 : Int32)), .val (.int (0 : Int32))] [(.ref x)]))
        obtain ⟨T12, X12, e12, st12⟩ := getF X11 hx hZ hown (host := "") (Or.inl (hw _ (List.mem_of_getElem? (i := 41) rfl))) Via.refl e11 F_cells (g := (mkF m 65 #[.val (.ref x), .val (.ref y), .val (.int (0 : Int32)), .val (.int (0 : Int32))] [(.ref x)])) rfl rfl (hb hby d12_65)
        refine own_go st12 ?_
        show own_G p e below s _ _ _ (T12.setTop (mkF m 68 #[.val (.ref x), .val (.ref y), .val (.int (0 : Int32)), .val (.int (0 : Int32))] [(.ref ca)]))
        refine own_go (fun _ kk_ => XS.iloadN X12.here hx rfl (hb hby d12_68) rfl kk_) ?_
        show own_G p e below s _ _ _ (T12.setTop (mkF m 69 #[.val (.ref x), .val (.ref y), .val (.int (0 : Int32)), .val (.int (0 : Int32))] [(.int (0 : Int32)), (.ref ca)]))
        have Vc13 := V_c
        obtain ⟨cl13, Ar13, q13, S13, M13, H13, G13⟩ := Vc13
        have hin13 := inb_of (j := (0 : Int32)) S13 ⟨(by decide), (by decide)⟩
        have hat13 := H13.at hin13 (v := (.int c0)) rfl
        refine own_go (X12.iaload hx (j := (0 : Int32)) (v := (.int c0)) (by rw [e12]; exact Ar13.1) (State.isArrayOf_alike hZ.alike Ar13.2.1) Ar13.2.2 hin13 hat13 (g := (mkF m 69 #[.val (.ref x), .val (.ref y), .val (.int (0 : Int32)), .val (.int (0 : Int32))] [(.int (0 : Int32)), (.ref ca)])) rfl rfl (hb hby d12_69)) ?_
        show own_G p e below s _ _ _ (T12.setTop (mkF m 70 #[.val (.ref x), .val (.ref y), .val (.int (0 : Int32)), .val (.int (0 : Int32))] [(.int c0)]))
        refine own_go (fun _ kk_ => XS.aloadN X12.here hx rfl (hb hby d12_70) rfl rfl kk_) ?_
        show own_G p e below s _ _ _ (T12.setTop (mkF m 71 #[.val (.ref x), .val (.ref y), .val (.int (0 : Int32)), .val (.int (0 : Int32))] [(.ref y), (.int c0)]))
        obtain ⟨T14, X14, e14, st14⟩ := getF X12 hx hZ hown (host := "") (Or.inl (hw _ (List.mem_of_getElem? (i := 41) rfl))) Via.refl e12 F_cells' (g := (mkF m 71 #[.val (.ref x), .val (.ref y), .val (.int (0 : Int32)), .val (.int (0 : Int32))] [(.ref y), (.int c0)])) rfl rfl (hb hby d12_71)
        refine own_go st14 ?_
        show own_G p e below s _ _ _ (T14.setTop (mkF m 74 #[.val (.ref x), .val (.ref y), .val (.int (0 : Int32)), .val (.int (0 : Int32))] [(.ref da), (.int c0)]))
        refine own_go (fun _ kk_ => XS.iloadN X14.here hx rfl (hb hby d12_74) rfl kk_) ?_
        show own_G p e below s _ _ _ (T14.setTop (mkF m 75 #[.val (.ref x), .val (.ref y), .val (.int (0 : Int32)), .val (.int (0 : Int32))] [(.int (0 : Int32)), (.ref da), (.int c0)]))
        have Vc15 := V_c'
        obtain ⟨cl15, Ar15, q15, S15, M15, H15, G15⟩ := Vc15
        have hin15 := inb_of (j := (0 : Int32)) S15 ⟨(by decide), (by decide)⟩
        have hat15 := H15.at hin15 (v := (.int d0)) rfl
        refine own_go (X14.iaload hx (j := (0 : Int32)) (v := (.int d0)) (by rw [e14]; exact Ar15.1) (State.isArrayOf_alike hZ.alike Ar15.2.1) Ar15.2.2 hin15 hat15 (g := (mkF m 75 #[.val (.ref x), .val (.ref y), .val (.int (0 : Int32)), .val (.int (0 : Int32))] [(.int (0 : Int32)), (.ref da), (.int c0)])) rfl rfl (hb hby d12_75)) ?_
        show own_G p e below s _ _ _ (T14.setTop (mkF m 76 #[.val (.ref x), .val (.ref y), .val (.int (0 : Int32)), .val (.int (0 : Int32))] [(.int d0), (.int c0)]))
        refine own_ic_ne X14 hx (pc := 76) (pc' := 99) (hb hby d12_76) (by decide) (by decide) (fun hc76 => ?_) (fun hc76 => ?_)
        · exact J9 _ _ (X14.more (by decide) (by decide)) N6 e14 (fun q => hc76 q.1)
        · show own_G p e below s _ _ _ (T14.setTop (mkF m 79 #[.val (.ref x), .val (.ref y), .val (.int (0 : Int32)), .val (.int (0 : Int32))] []))
          refine own_go (fun _ kk_ => XS.aloadN X14.here hx rfl (hb hby d12_79) rfl rfl kk_) ?_
          show own_G p e below s _ _ _ (T14.setTop (mkF m 80 #[.val (.ref x), .val (.ref y), .val (.int (0 : Int32)), .val (.int (0 : Int32))] [(.ref x)]))
          obtain ⟨T16, X16, e16, st16⟩ := getF X14 hx hZ hown (host := "") (Or.inl (hw _ (List.mem_of_getElem? (i := 44) rfl))) Via.refl e14 F_writes (g := (mkF m 80 #[.val (.ref x), .val (.ref y), .val (.int (0 : Int32)), .val (.int (0 : Int32))] [(.ref x)])) rfl rfl (hb hby d12_80)
          refine own_go st16 ?_
          show own_G p e below s _ _ _ (T16.setTop (mkF m 83 #[.val (.ref x), .val (.ref y), .val (.int (0 : Int32)), .val (.int (0 : Int32))] [(.ref wa)]))
          refine own_go (fun _ kk_ => XS.iloadN X16.here hx rfl (hb hby d12_83) rfl kk_) ?_
          show own_G p e below s _ _ _ (T16.setTop (mkF m 84 #[.val (.ref x), .val (.ref y), .val (.int (0 : Int32)), .val (.int (0 : Int32))] [(.int (0 : Int32)), (.ref wa)]))
          have Vc17 := V_w
          obtain ⟨cl17, Ar17, q17, S17, M17, H17, G17⟩ := Vc17
          have hin17 := inb_of (j := (0 : Int32)) S17 ⟨(by decide), (by decide)⟩
          have hat17 := H17.at hin17 (v := (.int w0)) rfl
          refine own_go (X16.baloadBooleans hx (j := (0 : Int32)) (v := (.int w0)) (by rw [e16]; exact Ar17.1) (State.isArrayOf_alike hZ.alike Ar17.2.1) Ar17.2.2 hin17 hat17 (g := (mkF m 84 #[.val (.ref x), .val (.ref y), .val (.int (0 : Int32)), .val (.int (0 : Int32))] [(.int (0 : Int32)), (.ref wa)])) rfl rfl (hb hby d12_84)) ?_
          show own_G p e below s _ _ _ (T16.setTop (mkF m 85 #[.val (.ref x), .val (.ref y), .val (.int (0 : Int32)), .val (.int (0 : Int32))] [(.int w0)]))
          refine own_if_ne X16 hx (pc := 85) (pc' := 97) (hb hby d12_85) (by decide) (by decide) (fun hc85 => ?_) (fun hc85 => ?_)
          · show own_G p e below s _ _ _ (T16.setTop (mkF m 97 #[.val (.ref x), .val (.ref y), .val (.int (0 : Int32)), .val (.int (0 : Int32))] []))
            refine own_go (fun _ kk_ => XS.iconst X16.here hx rfl (hb hby d12_97) kk_) ?_
            show own_G p e below s _ _ _ (T16.setTop (mkF m 98 #[.val (.ref x), .val (.ref y), .val (.int (0 : Int32)), .val (.int (0 : Int32))] [(.int (1 : Int32))]))
            exact own_retN (t := .boolean) (ht := by simp) X16 hx Bd.returns (BodyLoose.notSynchronized Bd) (hb hby d12_98) e16 ⟨_, rfl, N6, rfl, Or.inl ⟨rfl, Or.inr (Or.inr (Or.inr (Or.inr (Or.inl ⟨by decide, by decide, ⟨hc76, Or.inl hc85⟩⟩))))⟩⟩ (by decide) (by decide)
          · show own_G p e below s _ _ _ (T16.setTop (mkF m 88 #[.val (.ref x), .val (.ref y), .val (.int (0 : Int32)), .val (.int (0 : Int32))] []))
            refine own_go (fun _ kk_ => XS.aloadN X16.here hx rfl (hb hby d12_88) rfl rfl kk_) ?_
            show own_G p e below s _ _ _ (T16.setTop (mkF m 89 #[.val (.ref x), .val (.ref y), .val (.int (0 : Int32)), .val (.int (0 : Int32))] [(.ref y)]))
            obtain ⟨T18, X18, e18, st18⟩ := getF X16 hx hZ hown (host := "") (Or.inl (hw _ (List.mem_of_getElem? (i := 44) rfl))) Via.refl e16 F_writes' (g := (mkF m 89 #[.val (.ref x), .val (.ref y), .val (.int (0 : Int32)), .val (.int (0 : Int32))] [(.ref y)])) rfl rfl (hb hby d12_89)
            refine own_go st18 ?_
            show own_G p e below s _ _ _ (T18.setTop (mkF m 92 #[.val (.ref x), .val (.ref y), .val (.int (0 : Int32)), .val (.int (0 : Int32))] [(.ref va)]))
            refine own_go (fun _ kk_ => XS.iloadN X18.here hx rfl (hb hby d12_92) rfl kk_) ?_
            show own_G p e below s _ _ _ (T18.setTop (mkF m 93 #[.val (.ref x), .val (.ref y), .val (.int (0 : Int32)), .val (.int (0 : Int32))] [(.int (0 : Int32)), (.ref va)]))
            have Vc19 := V_w'
            obtain ⟨cl19, Ar19, q19, S19, M19, H19, G19⟩ := Vc19
            have hin19 := inb_of (j := (0 : Int32)) S19 ⟨(by decide), (by decide)⟩
            have hat19 := H19.at hin19 (v := (.int v0)) rfl
            refine own_go (X18.baloadBooleans hx (j := (0 : Int32)) (v := (.int v0)) (by rw [e18]; exact Ar19.1) (State.isArrayOf_alike hZ.alike Ar19.2.1) Ar19.2.2 hin19 hat19 (g := (mkF m 93 #[.val (.ref x), .val (.ref y), .val (.int (0 : Int32)), .val (.int (0 : Int32))] [(.int (0 : Int32)), (.ref va)])) rfl rfl (hb hby d12_93)) ?_
            show own_G p e below s _ _ _ (T18.setTop (mkF m 94 #[.val (.ref x), .val (.ref y), .val (.int (0 : Int32)), .val (.int (0 : Int32))] [(.int v0)]))
            refine own_if_eq X18 hx (pc := 94) (pc' := 99) (hb hby d12_94) (by decide) (by decide) (fun hc94 => ?_) (fun hc94 => ?_)
            · exact J9 _ _ (X18.more (by decide) (by decide)) N6 e18 (fun q => q.2.elim (fun z => z hc85) (fun z => z hc94))
            · show own_G p e below s _ _ _ (T18.setTop (mkF m 97 #[.val (.ref x), .val (.ref y), .val (.int (0 : Int32)), .val (.int (0 : Int32))] []))
              refine own_go (fun _ kk_ => XS.iconst X18.here hx rfl (hb hby d12_97) kk_) ?_
              show own_G p e below s _ _ _ (T18.setTop (mkF m 98 #[.val (.ref x), .val (.ref y), .val (.int (0 : Int32)), .val (.int (0 : Int32))] [(.int (1 : Int32))]))
              exact own_retN (t := .boolean) (ht := by simp) X18 hx Bd.returns (BodyLoose.notSynchronized Bd) (hb hby d12_98) e18 ⟨_, rfl, N6, rfl, Or.inl ⟨rfl, Or.inr (Or.inr (Or.inr (Or.inr (Or.inl ⟨by decide, by decide, ⟨hc76, Or.inr hc94⟩⟩))))⟩⟩ (by decide) (by decide)
      intro T9 lo9 X9 N9 e9 hn00
      show own_G p e below s _ _ _ (T9.setTop (mkF m 99 #[.val (.ref x), .val (.ref y), .val (.int (0 : Int32)), .val (.int (0 : Int32))] []))
      show own_G p e below s _ _ _ (T9.setTop (mkF m 99 #[.val (.ref x), .val (.ref y), .val (.int (0 : Int32)), .val (.int (0 : Int32))] []))
      refine own_go (fun _ kk_ => XS.iinc X9.here hx rfl (hb hby d12_99) rfl (l' := #[.val (.ref x), .val (.ref y), .val (.int (0 : Int32)), .val (.int (1 : Int32))]) rfl kk_) ?_
      show own_G p e below s _ _ _ (T9.setTop (mkF m 102 #[.val (.ref x), .val (.ref y), .val (.int (0 : Int32)), .val (.int (1 : Int32))] []))
      refine own_go (fun _ kk_ => XS.goto X9.here hx rfl (pc0 := 102) (pc' := 56) rfl (hb hby d12_102) (by decide) (by decide) kk_) ?_
      show own_G p e below s _ _ _ (T9.setTop (mkF m 56 #[.val (.ref x), .val (.ref y), .val (.int (0 : Int32)), .val (.int (1 : Int32))] []))
      refine own_go (fun _ kk_ => XS.iloadN X9.here hx rfl (hb hby d12_56) rfl kk_) ?_
      show own_G p e below s _ _ _ (T9.setTop (mkF m 57 #[.val (.ref x), .val (.ref y), .val (.int (0 : Int32)), .val (.int (1 : Int32))] [(.int (1 : Int32))]))
      refine own_go (fun _ kk_ => XS.aloadN X9.here hx rfl (hb hby d12_57) rfl rfl kk_) ?_
      show own_G p e below s _ _ _ (T9.setTop (mkF m 58 #[.val (.ref x), .val (.ref y), .val (.int (0 : Int32)), .val (.int (1 : Int32))] [(.ref y), (.int (1 : Int32))]))
      obtain ⟨T20, X20, e20, st20⟩ := getF X9 hx hZ hown (host := "") (Or.inl (hw _ (List.mem_of_getElem? (i := 80) rfl))) Via.refl e9 F_touched' (g := (mkF m 58 #[.val (.ref x), .val (.ref y), .val (.int (0 : Int32)), .val (.int (1 : Int32))] [(.ref y), (.int (1 : Int32))])) rfl rfl (hb hby d12_58)
      refine own_go st20 ?_
      show own_G p e below s _ _ _ (T20.setTop (mkF m 61 #[.val (.ref x), .val (.ref y), .val (.int (0 : Int32)), .val (.int (1 : Int32))] [(.int (1 : Int32)), (.int (1 : Int32))]))
      refine own_ic_geY X20 hx (pc := 61) (pc' := 105) (hb hby d12_61) (by decide) (by decide) (by decide) ?_
      show own_G p e below s _ _ _ (T20.setTop (mkF m 105 #[.val (.ref x), .val (.ref y), .val (.int (0 : Int32)), .val (.int (1 : Int32))] []))
      refine own_go (fun _ kk_ => XS.iinc X20.here hx rfl (hb hby d12_105) rfl (l' := #[.val (.ref x), .val (.ref y), .val (.int (1 : Int32)), .val (.int (1 : Int32))]) rfl kk_) ?_
      show own_G p e below s _ _ _ (T20.setTop (mkF m 108 #[.val (.ref x), .val (.ref y), .val (.int (1 : Int32)), .val (.int (1 : Int32))] []))
      refine own_go (fun _ kk_ => XS.goto X20.here hx rfl (pc0 := 108) (pc' := 46) rfl (hb hby d12_108) (by decide) (by decide) kk_) ?_
      show own_G p e below s _ _ _ (T20.setTop (mkF m 46 #[.val (.ref x), .val (.ref y), .val (.int (1 : Int32)), .val (.int (1 : Int32))] []))
      refine own_go (fun _ kk_ => XS.iloadN X20.here hx rfl (hb hby d12_46) rfl kk_) ?_
      show own_G p e below s _ _ _ (T20.setTop (mkF m 47 #[.val (.ref x), .val (.ref y), .val (.int (1 : Int32)), .val (.int (1 : Int32))] [(.int (1 : Int32))]))
      refine own_go (fun _ kk_ => XS.aloadN X20.here hx rfl (hb hby d12_47) rfl rfl kk_) ?_
      show own_G p e below s _ _ _ (T20.setTop (mkF m 48 #[.val (.ref x), .val (.ref y), .val (.int (1 : Int32)), .val (.int (1 : Int32))] [(.ref x), (.int (1 : Int32))]))
      obtain ⟨T21, X21, e21, st21⟩ := getF X20 hx hZ hown (host := "") (Or.inl (hw _ (List.mem_of_getElem? (i := 80) rfl))) Via.refl e20 F_touched (g := (mkF m 48 #[.val (.ref x), .val (.ref y), .val (.int (1 : Int32)), .val (.int (1 : Int32))] [(.ref x), (.int (1 : Int32))])) rfl rfl (hb hby d12_48)
      refine own_go st21 ?_
      show own_G p e below s _ _ _ (T21.setTop (mkF m 51 #[.val (.ref x), .val (.ref y), .val (.int (1 : Int32)), .val (.int (1 : Int32))] [(.int (1 : Int32)), (.int (1 : Int32))]))
      refine own_ic_geY X21 hx (pc := 51) (pc' := 111) (hb hby d12_51) (by decide) (by decide) (by decide) ?_
      show own_G p e below s _ _ _ (T21.setTop (mkF m 111 #[.val (.ref x), .val (.ref y), .val (.int (1 : Int32)), .val (.int (1 : Int32))] []))
      refine own_go (fun _ kk_ => XS.iconst X21.here hx rfl (hb hby d12_111) kk_) ?_
      show own_G p e below s _ _ _ (T21.setTop (mkF m 112 #[.val (.ref x), .val (.ref y), .val (.int (1 : Int32)), .val (.int (1 : Int32))] [(.int (0 : Int32))]))
      exact own_retN (t := .boolean) (ht := by simp) X21 hx Bd.returns (BodyLoose.notSynchronized Bd) (hb hby d12_112) e21 ⟨_, rfl, N9, rfl, Or.inr ⟨rfl, own_Dno hc4 hc11 hbr hrb (fun q => q.elim (fun q => hn00 q.2.2) (fun q => q.elim (fun q => absurd q.2.1 (by decide)) (fun q => q.elim (fun q => absurd q.1 (by decide)) (fun q => absurd q.1 (by decide)))))⟩⟩ (by decide) (by decide)
theorem ef_rmDp12 (m : MethodId) (x0 : Addr) (x1 : Addr) : entryFrame m #[(.ref x0), (.ref x1)] 4 = mkF m 0 #[.val (.ref x0), .val (.ref x1), .unset, .unset] [] := by first | (simp [entryFrame, mkF, argsToLocals, Value.category]; done) | rfl
def Q_rmDp12 (Z : State) (x ca wa y da va : Addr) (kc kw kd kv : ClassId) (c0 c1 w0 w1 b1 r1 y1 d0 d1 v0 v1 b2 r2 y2 : Int32) (h0 : Heap) (n0 : Nat) : Option Value → Heap → List Loc → Prop := fun v h L => ∃ B : Int32, v = some (.int B) ∧ Fr n0 L ∧ h = h0 ∧ ((B = 1 ∧ (own_D y1 y2 b1 r1 b2 r2 (own_C 1 2 c0 c1 w0 w1 d0 d1 v0 v1))) ∨ (B = 0 ∧ ¬ (own_D y1 y2 b1 r1 b2 r2 (own_C 1 2 c0 c1 w0 w1 d0 d1 v0 v1))))
set_option maxRecDepth 65536 in
set_option maxHeartbeats 40000000 in
theorem rmDp12 (l : Launch) (Z : State) (a0 : Array Value) (hw : ∀ d ∈ tables_1, d.before a0 Z = true) (ws : List Jvm.Cond) (x ca wa y da va : Addr) (kc kw kd kv : ClassId) (c0 c1 w0 w1 b1 r1 y1 d0 d1 v0 v1 b2 r2 y2 : Int32) (h0 : Heap) (n0 : Nat) (Z0 : n0 ≤ h0.size) (FP : own_FP Z h0 x ca wa kc kw 1 c0 c1 w0 w1 b1 r1 y1) (FQ : own_FP Z h0 y da va kd kv 2 d0 d1 v0 v1 b2 r2 y2) :
    MetFree l (⟨"com/example/relyguard/relyguard/Footprint", "dependsOn", "(Lcom/example/relyguard/relyguard/Footprint;)Z"⟩ : MethodName) (head1 (Jvm.Cond.code (⟨"com/example/relyguard/relyguard/Footprint", "dependsOn", "(Lcom/example/relyguard/relyguard/Footprint;)Z"⟩ : MethodName) prog_47_method_13_code 4 (some .boolean) :: ws) ({ frames := 0, cells := 0, slots := 0, locals := 0 } : Room)) (fun as_ U => as_ = #[(.ref x), (.ref y)] ∧ Z.Warmed39 U.vm ∧ U.heap = h0) (fun _ _ _ _ _ => True) (fun _ U o U' => ∃ v L, o = .returned v ∧ (Q_rmDp12 Z x ca wa y da va kc kw kd kv c0 c1 w0 w1 b1 r1 y1 d0 d1 v0 v1 b2 r2 y2 h0 n0) v U'.heap L ∧ FrameEnd U o U' L ({ frames := 0, cells := 0, slots := 0, locals := 0 } : Room).cells ({ frames := 0, cells := 0, slots := 0, locals := 0 } : Room).slots) := by
  refine MetFree.of_bodySF (plainFor_of_name pn_2) hisR ?_
  intro p e s m args below meth c s₁ Bd hml0 hP hK
  obtain ⟨rfl, hZ, hh⟩ := hP
  have hx := Bd.exec
  have hby := Bd.bytes
  have hml : c.maxLocals = 4 := hml0
  have hown : s.vm.findClass "com/example/relyguard/relyguard/Footprint" = some m.cls := findClass_of_methodNamed Bd.named
  have hnm := (name_of_methodNamed Bd.named Bd.method).1
  have X0 : Stand p l e ({ frames := 0, cells := 0, slots := 0, locals := 0 } : Room) s m #[(.ref x), (.ref y)] below meth c s₁ [] 0 0 := Stand.of_body Bd
  have e0 : s₁.heap = h0 := by rw [← hh, Bd.state]; rfl
  have N0 := Fr.nil n0
  show own_G p e below s (Q_rmDp12 Z x ca wa y da va kc kw kd kv c0 c1 w0 w1 b1 r1 y1 d0 d1 v0 v1 b2 r2 y2 h0 n0) ({ frames := 0, cells := 0, slots := 0, locals := 0 } : Room).cells ({ frames := 0, cells := 0, slots := 0, locals := 0 } : Room).slots (s₁.setTop (entryFrame m #[(.ref x), (.ref y)] 4))
  rw [ef_rmDp12 m x y]
  obtain ⟨⟨E_x, F_cells, F_writes, F_touched, F_begins, F_returns, F_endsRun⟩, ⟨V_c, V_w⟩, ne1, ne2, ne3⟩ := FP
  obtain ⟨⟨E_x', F_cells', F_writes', F_touched', F_begins', F_returns', F_endsRun'⟩, ⟨V_c', V_w'⟩, ne1', ne2', ne3'⟩ := FQ
  show own_G p e below s _ _ _ (s₁.setTop (mkF m 0 #[.val (.ref x), .val (.ref y), .unset, .unset] []))
  refine own_go (fun _ kk_ => XS.aloadN X0.here hx rfl (hb hby d12_0) rfl rfl kk_) ?_
  show own_G p e below s _ _ _ (s₁.setTop (mkF m 1 #[.val (.ref x), .val (.ref y), .unset, .unset] [(.ref x)]))
  obtain ⟨T1, X1, e1, st1⟩ := getF X0 hx hZ hown (host := "") (Or.inl (hw _ (List.mem_of_getElem? (i := 74) rfl))) Via.refl e0 F_endsRun (g := (mkF m 1 #[.val (.ref x), .val (.ref y), .unset, .unset] [(.ref x)])) rfl rfl (hb hby d12_1)
  refine own_go st1 ?_
  show own_G p e below s _ _ _ (T1.setTop (mkF m 4 #[.val (.ref x), .val (.ref y), .unset, .unset] [(.int y1)]))
  refine own_if_ne X1 hx (pc := 4) (pc' := 42) (hb hby d12_4) (by decide) (by decide) (fun hc4 => ?_) (fun hc4 => ?_)
  · show own_G p e below s _ _ _ (T1.setTop (mkF m 42 #[.val (.ref x), .val (.ref y), .unset, .unset] []))
    refine own_go (fun _ kk_ => XS.iconst X1.here hx rfl (hb hby d12_42) kk_) ?_
    show own_G p e below s _ _ _ (T1.setTop (mkF m 43 #[.val (.ref x), .val (.ref y), .unset, .unset] [(.int (1 : Int32))]))
    exact own_retN (t := .boolean) (ht := by simp) X1 hx Bd.returns (BodyLoose.notSynchronized Bd) (hb hby d12_43) e1 ⟨_, rfl, N0, rfl, Or.inl ⟨rfl, Or.inl hc4⟩⟩ (by decide) (by decide)
  · show own_G p e below s _ _ _ (T1.setTop (mkF m 7 #[.val (.ref x), .val (.ref y), .unset, .unset] []))
    refine own_go (fun _ kk_ => XS.aloadN X1.here hx rfl (hb hby d12_7) rfl rfl kk_) ?_
    show own_G p e below s _ _ _ (T1.setTop (mkF m 8 #[.val (.ref x), .val (.ref y), .unset, .unset] [(.ref y)]))
    obtain ⟨T2, X2, e2, st2⟩ := getF X1 hx hZ hown (host := "") (Or.inl (hw _ (List.mem_of_getElem? (i := 74) rfl))) Via.refl e1 F_endsRun' (g := (mkF m 8 #[.val (.ref x), .val (.ref y), .unset, .unset] [(.ref y)])) rfl rfl (hb hby d12_8)
    refine own_go st2 ?_
    show own_G p e below s _ _ _ (T2.setTop (mkF m 11 #[.val (.ref x), .val (.ref y), .unset, .unset] [(.int y2)]))
    refine own_if_ne X2 hx (pc := 11) (pc' := 42) (hb hby d12_11) (by decide) (by decide) (fun hc11 => ?_) (fun hc11 => ?_)
    · show own_G p e below s _ _ _ (T2.setTop (mkF m 42 #[.val (.ref x), .val (.ref y), .unset, .unset] []))
      refine own_go (fun _ kk_ => XS.iconst X2.here hx rfl (hb hby d12_42) kk_) ?_
      show own_G p e below s _ _ _ (T2.setTop (mkF m 43 #[.val (.ref x), .val (.ref y), .unset, .unset] [(.int (1 : Int32))]))
      exact own_retN (t := .boolean) (ht := by simp) X2 hx Bd.returns (BodyLoose.notSynchronized Bd) (hb hby d12_43) e2 ⟨_, rfl, N0, rfl, Or.inl ⟨rfl, Or.inr (Or.inl hc11)⟩⟩ (by decide) (by decide)
    · suffices J3 : ∀ (T3 : State) (lo3 : List Loc), Stand p l e ({ frames := 0, cells := 0, slots := 0, locals := 0 } : Room) s m #[(.ref x), (.ref y)] below meth c T3 lo3 0 0 → Fr n0 lo3 → T3.heap = h0 → (¬ (¬ b1 = 0 ∧ ¬ r2 = 0)) → own_G p e below s (Q_rmDp12 Z x ca wa y da va kc kw kd kv c0 c1 w0 w1 b1 r1 y1 d0 d1 v0 v1 b2 r2 y2 h0 n0) ({ frames := 0, cells := 0, slots := 0, locals := 0 } : Room).cells ({ frames := 0, cells := 0, slots := 0, locals := 0 } : Room).slots (T3.setTop (mkF m 28 #[.val (.ref x), .val (.ref y), .unset, .unset] [])) by
        show own_G p e below s _ _ _ (T2.setTop (mkF m 14 #[.val (.ref x), .val (.ref y), .unset, .unset] []))
        refine own_go (fun _ kk_ => XS.aloadN X2.here hx rfl (hb hby d12_14) rfl rfl kk_) ?_
        show own_G p e below s _ _ _ (T2.setTop (mkF m 15 #[.val (.ref x), .val (.ref y), .unset, .unset] [(.ref x)]))
        obtain ⟨T4, X4, e4, st4⟩ := getF X2 hx hZ hown (host := "") (Or.inl (hw _ (List.mem_of_getElem? (i := 76) rfl))) Via.refl e2 F_begins (g := (mkF m 15 #[.val (.ref x), .val (.ref y), .unset, .unset] [(.ref x)])) rfl rfl (hb hby d12_15)
        refine own_go st4 ?_
        show own_G p e below s _ _ _ (T4.setTop (mkF m 18 #[.val (.ref x), .val (.ref y), .unset, .unset] [(.int b1)]))
        refine own_if_eq X4 hx (pc := 18) (pc' := 28) (hb hby d12_18) (by decide) (by decide) (fun hc18 => ?_) (fun hc18 => ?_)
        · exact J3 _ _ (X4.more (by decide) (by decide)) N0 e4 (fun q => q.1 hc18)
        · show own_G p e below s _ _ _ (T4.setTop (mkF m 21 #[.val (.ref x), .val (.ref y), .unset, .unset] []))
          refine own_go (fun _ kk_ => XS.aloadN X4.here hx rfl (hb hby d12_21) rfl rfl kk_) ?_
          show own_G p e below s _ _ _ (T4.setTop (mkF m 22 #[.val (.ref x), .val (.ref y), .unset, .unset] [(.ref y)]))
          obtain ⟨T5, X5, e5, st5⟩ := getF X4 hx hZ hown (host := "") (Or.inl (hw _ (List.mem_of_getElem? (i := 78) rfl))) Via.refl e4 F_returns' (g := (mkF m 22 #[.val (.ref x), .val (.ref y), .unset, .unset] [(.ref y)])) rfl rfl (hb hby d12_22)
          refine own_go st5 ?_
          show own_G p e below s _ _ _ (T5.setTop (mkF m 25 #[.val (.ref x), .val (.ref y), .unset, .unset] [(.int r2)]))
          refine own_if_ne X5 hx (pc := 25) (pc' := 42) (hb hby d12_25) (by decide) (by decide) (fun hc25 => ?_) (fun hc25 => ?_)
          · show own_G p e below s _ _ _ (T5.setTop (mkF m 42 #[.val (.ref x), .val (.ref y), .unset, .unset] []))
            refine own_go (fun _ kk_ => XS.iconst X5.here hx rfl (hb hby d12_42) kk_) ?_
            show own_G p e below s _ _ _ (T5.setTop (mkF m 43 #[.val (.ref x), .val (.ref y), .unset, .unset] [(.int (1 : Int32))]))
            exact own_retN (t := .boolean) (ht := by simp) X5 hx Bd.returns (BodyLoose.notSynchronized Bd) (hb hby d12_43) e5 ⟨_, rfl, N0, rfl, Or.inl ⟨rfl, Or.inr (Or.inr (Or.inl ⟨hc18, hc25⟩))⟩⟩ (by decide) (by decide)
          · exact J3 _ _ (X5.more (by decide) (by decide)) N0 e5 (fun q => q.2 hc25)
      intro T3 lo3 X3 N3 e3 hbr
      show own_G p e below s _ _ _ (T3.setTop (mkF m 28 #[.val (.ref x), .val (.ref y), .unset, .unset] []))
      suffices J6 : ∀ (T6 : State) (lo6 : List Loc), Stand p l e ({ frames := 0, cells := 0, slots := 0, locals := 0 } : Room) s m #[(.ref x), (.ref y)] below meth c T6 lo6 0 0 → Fr n0 lo6 → T6.heap = h0 → (¬ (¬ r1 = 0 ∧ ¬ b2 = 0)) → own_G p e below s (Q_rmDp12 Z x ca wa y da va kc kw kd kv c0 c1 w0 w1 b1 r1 y1 d0 d1 v0 v1 b2 r2 y2 h0 n0) ({ frames := 0, cells := 0, slots := 0, locals := 0 } : Room).cells ({ frames := 0, cells := 0, slots := 0, locals := 0 } : Room).slots (T6.setTop (mkF m 44 #[.val (.ref x), .val (.ref y), .unset, .unset] [])) by
        show own_G p e below s _ _ _ (T3.setTop (mkF m 28 #[.val (.ref x), .val (.ref y), .unset, .unset] []))
        refine own_go (fun _ kk_ => XS.aloadN X3.here hx rfl (hb hby d12_28) rfl rfl kk_) ?_
        show own_G p e below s _ _ _ (T3.setTop (mkF m 29 #[.val (.ref x), .val (.ref y), .unset, .unset] [(.ref x)]))
        obtain ⟨T7, X7, e7, st7⟩ := getF X3 hx hZ hown (host := "") (Or.inl (hw _ (List.mem_of_getElem? (i := 78) rfl))) Via.refl e3 F_returns (g := (mkF m 29 #[.val (.ref x), .val (.ref y), .unset, .unset] [(.ref x)])) rfl rfl (hb hby d12_29)
        refine own_go st7 ?_
        show own_G p e below s _ _ _ (T7.setTop (mkF m 32 #[.val (.ref x), .val (.ref y), .unset, .unset] [(.int r1)]))
        refine own_if_eq X7 hx (pc := 32) (pc' := 44) (hb hby d12_32) (by decide) (by decide) (fun hc32 => ?_) (fun hc32 => ?_)
        · exact J6 _ _ (X7.more (by decide) (by decide)) N3 e7 (fun q => q.1 hc32)
        · show own_G p e below s _ _ _ (T7.setTop (mkF m 35 #[.val (.ref x), .val (.ref y), .unset, .unset] []))
          refine own_go (fun _ kk_ => XS.aloadN X7.here hx rfl (hb hby d12_35) rfl rfl kk_) ?_
          show own_G p e below s _ _ _ (T7.setTop (mkF m 36 #[.val (.ref x), .val (.ref y), .unset, .unset] [(.ref y)]))
          obtain ⟨T8, X8, e8, st8⟩ := getF X7 hx hZ hown (host := "") (Or.inl (hw _ (List.mem_of_getElem? (i := 76) rfl))) Via.refl e7 F_begins' (g := (mkF m 36 #[.val (.ref x), .val (.ref y), .unset, .unset] [(.ref y)])) rfl rfl (hb hby d12_36)
          refine own_go st8 ?_
          show own_G p e below s _ _ _ (T8.setTop (mkF m 39 #[.val (.ref x), .val (.ref y), .unset, .unset] [(.int b2)]))
          refine own_if_eq X8 hx (pc := 39) (pc' := 44) (hb hby d12_39) (by decide) (by decide) (fun hc39 => ?_) (fun hc39 => ?_)
          · exact J6 _ _ (X8.more (by decide) (by decide)) N3 e8 (fun q => q.2 hc39)
          · show own_G p e below s _ _ _ (T8.setTop (mkF m 42 #[.val (.ref x), .val (.ref y), .unset, .unset] []))
            refine own_go (fun _ kk_ => XS.iconst X8.here hx rfl (hb hby d12_42) kk_) ?_
            show own_G p e below s _ _ _ (T8.setTop (mkF m 43 #[.val (.ref x), .val (.ref y), .unset, .unset] [(.int (1 : Int32))]))
            exact own_retN (t := .boolean) (ht := by simp) X8 hx Bd.returns (BodyLoose.notSynchronized Bd) (hb hby d12_43) e8 ⟨_, rfl, N3, rfl, Or.inl ⟨rfl, Or.inr (Or.inr (Or.inr (Or.inl ⟨hc32, hc39⟩)))⟩⟩ (by decide) (by decide)
      intro T6 lo6 X6 N6 e6 hrb
      show own_G p e below s _ _ _ (T6.setTop (mkF m 44 #[.val (.ref x), .val (.ref y), .unset, .unset] []))
      suffices J9 : ∀ (T9 : State) (lo9 : List Loc), Stand p l e ({ frames := 0, cells := 0, slots := 0, locals := 0 } : Room) s m #[(.ref x), (.ref y)] below meth c T9 lo9 0 0 → Fr n0 lo9 → T9.heap = h0 → (¬ own_cf c0 w0 d0 v0) → own_G p e below s (Q_rmDp12 Z x ca wa y da va kc kw kd kv c0 c1 w0 w1 b1 r1 y1 d0 d1 v0 v1 b2 r2 y2 h0 n0) ({ frames := 0, cells := 0, slots := 0, locals := 0 } : Room).cells ({ frames := 0, cells := 0, slots := 0, locals := 0 } : Room).slots (T9.setTop (mkF m 99 #[.val (.ref x), .val (.ref y), .val (.int (0 : Int32)), .val (.int (0 : Int32))] [])) by
        show own_G p e below s _ _ _ (T6.setTop (mkF m 44 #[.val (.ref x), .val (.ref y), .unset, .unset] []))
        refine own_go (fun _ kk_ => XS.iconst X6.here hx rfl (hb hby d12_44) kk_) ?_
        show own_G p e below s _ _ _ (T6.setTop (mkF m 45 #[.val (.ref x), .val (.ref y), .unset, .unset] [(.int (0 : Int32))]))
        refine own_go (fun _ kk_ => XS.istoreN X6.here hx rfl (hb hby d12_45) rfl (l' := #[.val (.ref x), .val (.ref y), .val (.int (0 : Int32)), .unset]) rfl kk_) ?_
        show own_G p e below s _ _ _ (T6.setTop (mkF m 46 #[.val (.ref x), .val (.ref y), .val (.int (0 : Int32)), .unset] []))
        refine own_go (fun _ kk_ => XS.iloadN X6.here hx rfl (hb hby d12_46) rfl kk_) ?_
        show own_G p e below s _ _ _ (T6.setTop (mkF m 47 #[.val (.ref x), .val (.ref y), .val (.int (0 : Int32)), .unset] [(.int (0 : Int32))]))
        refine own_go (fun _ kk_ => XS.aloadN X6.here hx rfl (hb hby d12_47) rfl rfl kk_) ?_
        show own_G p e below s _ _ _ (T6.setTop (mkF m 48 #[.val (.ref x), .val (.ref y), .val (.int (0 : Int32)), .unset] [(.ref x), (.int (0 : Int32))]))
        obtain ⟨T10, X10, e10, st10⟩ := getF X6 hx hZ hown (host := "") (Or.inl (hw _ (List.mem_of_getElem? (i := 80) rfl))) Via.refl e6 F_touched (g := (mkF m 48 #[.val (.ref x), .val (.ref y), .val (.int (0 : Int32)), .unset] [(.ref x), (.int (0 : Int32))])) rfl rfl (hb hby d12_48)
        refine own_go st10 ?_
        show own_G p e below s _ _ _ (T10.setTop (mkF m 51 #[.val (.ref x), .val (.ref y), .val (.int (0 : Int32)), .unset] [(.int (1 : Int32)), (.int (0 : Int32))]))
        refine own_ic_geN X10 hx (pc := 51) (hb hby d12_51) (by decide) ?_
        show own_G p e below s _ _ _ (T10.setTop (mkF m 54 #[.val (.ref x), .val (.ref y), .val (.int (0 : Int32)), .unset] []))
        refine own_go (fun _ kk_ => XS.iconst X10.here hx rfl (hb hby d12_54) kk_) ?_
        show own_G p e below s _ _ _ (T10.setTop (mkF m 55 #[.val (.ref x), .val (.ref y), .val (.int (0 : Int32)), .unset] [(.int (0 : Int32))]))
        refine own_go (fun _ kk_ => XS.istoreN X10.here hx rfl (hb hby d12_55) rfl (l' := #[.val (.ref x), .val (.ref y), .val (.int (0 : Int32)), .val (.int (0 : Int32))]) rfl kk_) ?_
        show own_G p e below s _ _ _ (T10.setTop (mkF m 56 #[.val (.ref x), .val (.ref y), .val (.int (0 : Int32)), .val (.int (0 : Int32))] []))
        refine own_go (fun _ kk_ => XS.iloadN X10.here hx rfl (hb hby d12_56) rfl kk_) ?_
        show own_G p e below s _ _ _ (T10.setTop (mkF m 57 #[.val (.ref x), .val (.ref y), .val (.int (0 : Int32)), .val (.int (0 : Int32))] [(.int (0 : Int32))]))
        refine own_go (fun _ kk_ => XS.aloadN X10.here hx rfl (hb hby d12_57) rfl rfl kk_) ?_
        show own_G p e below s _ _ _ (T10.setTop (mkF m 58 #[.val (.ref x), .val (.ref y), .val (.int (0 : Int32)), .val (.int (0 : Int32))] [(.ref y), (.int (0 : Int32))]))
        obtain ⟨T11, X11, e11, st11⟩ := getF X10 hx hZ hown (host := "") (Or.inl (hw _ (List.mem_of_getElem? (i := 80) rfl))) Via.refl e10 F_touched' (g := (mkF m 58 #[.val (.ref x), .val (.ref y), .val (.int (0 : Int32)), .val (.int (0 : Int32))] [(.ref y), (.int (0 : Int32))])) rfl rfl (hb hby d12_58)
        refine own_go st11 ?_
        show own_G p e below s _ _ _ (T11.setTop (mkF m 61 #[.val (.ref x), .val (.ref y), .val (.int (0 : Int32)), .val (.int (0 : Int32))] [(.int (2 : Int32)), (.int (0 : Int32))]))
        refine own_ic_geN X11 hx (pc := 61) (hb hby d12_61) (by decide) ?_
        show own_G p e below s _ _ _ (T11.setTop (mkF m 64 #[.val (.ref x), .val (.ref y), .val (.int (0 : Int32)), .val (.int (0 : Int32))] []))
        refine own_go (fun _ kk_ => XS.aloadN X11.here hx rfl (hb hby d12_64) rfl rfl kk_) ?_
        show own_G p e below s _ _ _ (T11.setTop (mkF m 65 #[.val (.ref x), .val (.ref y), .val (.int (0 : Int32)), .val (.int (0 : Int32))] [(.ref x)]))
        obtain ⟨T12, X12, e12, st12⟩ := getF X11 hx hZ hown (host := "") (Or.inl (hw _ (List.mem_of_getElem? (i := 41) rfl))) Via.refl e11 F_cells (g := (mkF m 65 #[.val (.ref x), .val (.ref y), .val (.int (0 : Int32)), .val (.int (0 : Int32))] [(.ref x)])) rfl rfl (hb hby d12_65)
        refine own_go st12 ?_
        show own_G p e below s _ _ _ (T12.setTop (mkF m 68 #[.val (.ref x), .val (.ref y), .val (.int (0 : Int32)), .val (.int (0 : Int32))] [(.ref ca)]))
        refine own_go (fun _ kk_ => XS.iloadN X12.here hx rfl (hb hby d12_68) rfl kk_) ?_
        show own_G p e below s _ _ _ (T12.setTop (mkF m 69 #[.val (.ref x), .val (.ref y), .val (.int (0 : Int32)), .val (.int (0 : Int32))] [(.int (0 : Int32)), (.ref ca)]))
        have Vc13 := V_c
        obtain ⟨cl13, Ar13, q13, S13, M13, H13, G13⟩ := Vc13
        have hin13 := inb_of (j := (0 : Int32)) S13 ⟨(by decide), (by decide)⟩
        have hat13 := H13.at hin13 (v := (.int c0)) rfl
        refine own_go (X12.iaload hx (j := (0 : Int32)) (v := (.int c0)) (by rw [e12]; exact Ar13.1) (State.isArrayOf_alike hZ.alike Ar13.2.1) Ar13.2.2 hin13 hat13 (g := (mkF m 69 #[.val (.ref x), .val (.ref y), .val (.int (0 : Int32)), .val (.int (0 : Int32))] [(.int (0 : Int32)), (.ref ca)])) rfl rfl (hb hby d12_69)) ?_
        show own_G p e below s _ _ _ (T12.setTop (mkF m 70 #[.val (.ref x), .val (.ref y), .val (.int (0 : Int32)), .val (.int (0 : Int32))] [(.int c0)]))
        refine own_go (fun _ kk_ => XS.aloadN X12.here hx rfl (hb hby d12_70) rfl rfl kk_) ?_
        show own_G p e below s _ _ _ (T12.setTop (mkF m 71 #[.val (.ref x), .val (.ref y), .val (.int (0 : Int32)), .val (.int (0 : Int32))] [(.ref y), (.int c0)]))
        obtain ⟨T14, X14, e14, st14⟩ := getF X12 hx hZ hown (host := "") (Or.inl (hw _ (List.mem_of_getElem? (i := 41) rfl))) Via.refl e12 F_cells' (g := (mkF m 71 #[.val (.ref x), .val (.ref y), .val (.int (0 : Int32)), .val (.int (0 : Int32))] [(.ref y), (.int c0)])) rfl rfl (hb hby d12_71)
        refine own_go st14 ?_
        show own_G p e below s _ _ _ (T14.setTop (mkF m 74 #[.val (.ref x), .val (.ref y), .val (.int (0 : Int32)), .val (.int (0 : Int32))] [(.ref da), (.int c0)]))
        refine own_go (fun _ kk_ => XS.iloadN X14.here hx rfl (hb hby d12_74) rfl kk_) ?_
        show own_G p e below s _ _ _ (T14.setTop (mkF m 75 #[.val (.ref x), .val (.ref y), .val (.int (0 : Int32)), .val (.int (0 : Int32))] [(.int (0 : Int32)), (.ref da), (.int c0)]))
        have Vc15 := V_c'
        obtain ⟨cl15, Ar15, q15, S15, M15, H15, G15⟩ := Vc15
        have hin15 := inb_of (j := (0 : Int32)) S15 ⟨(by decide), (by decide)⟩
        have hat15 := H15.at hin15 (v := (.int d0)) rfl
        refine own_go (X14.iaload hx (j := (0 : Int32)) (v := (.int d0)) (by rw [e14]; exact Ar15.1) (State.isArrayOf_alike hZ.alike Ar15.2.1) Ar15.2.2 hin15 hat15 (g := (mkF m 75 #[.val (.ref x), .val (.ref y), .val (.int (0 : Int32)), .val (.int (0 : Int32))] [(.int (0 : Int32)), (.ref da), (.int c0)])) rfl rfl (hb hby d12_75)) ?_
        show own_G p e below s _ _ _ (T14.setTop (mkF m 76 #[.val (.ref x), .val (.ref y), .val (.int (0 : Int32)), .val (.int (0 : Int32))] [(.int d0), (.int c0)]))
        refine own_ic_ne X14 hx (pc := 76) (pc' := 99) (hb hby d12_76) (by decide) (by decide) (fun hc76 => ?_) (fun hc76 => ?_)
        · exact J9 _ _ (X14.more (by decide) (by decide)) N6 e14 (fun q => hc76 q.1)
        · show own_G p e below s _ _ _ (T14.setTop (mkF m 79 #[.val (.ref x), .val (.ref y), .val (.int (0 : Int32)), .val (.int (0 : Int32))] []))
          refine own_go (fun _ kk_ => XS.aloadN X14.here hx rfl (hb hby d12_79) rfl rfl kk_) ?_
          show own_G p e below s _ _ _ (T14.setTop (mkF m 80 #[.val (.ref x), .val (.ref y), .val (.int (0 : Int32)), .val (.int (0 : Int32))] [(.ref x)]))
          obtain ⟨T16, X16, e16, st16⟩ := getF X14 hx hZ hown (host := "") (Or.inl (hw _ (List.mem_of_getElem? (i := 44) rfl))) Via.refl e14 F_writes (g := (mkF m 80 #[.val (.ref x), .val (.ref y), .val (.int (0 : Int32)), .val (.int (0 : Int32))] [(.ref x)])) rfl rfl (hb hby d12_80)
          refine own_go st16 ?_
          show own_G p e below s _ _ _ (T16.setTop (mkF m 83 #[.val (.ref x), .val (.ref y), .val (.int (0 : Int32)), .val (.int (0 : Int32))] [(.ref wa)]))
          refine own_go (fun _ kk_ => XS.iloadN X16.here hx rfl (hb hby d12_83) rfl kk_) ?_
          show own_G p e below s _ _ _ (T16.setTop (mkF m 84 #[.val (.ref x), .val (.ref y), .val (.int (0 : Int32)), .val (.int (0 : Int32))] [(.int (0 : Int32)), (.ref wa)]))
          have Vc17 := V_w
          obtain ⟨cl17, Ar17, q17, S17, M17, H17, G17⟩ := Vc17
          have hin17 := inb_of (j := (0 : Int32)) S17 ⟨(by decide), (by decide)⟩
          have hat17 := H17.at hin17 (v := (.int w0)) rfl
          refine own_go (X16.baloadBooleans hx (j := (0 : Int32)) (v := (.int w0)) (by rw [e16]; exact Ar17.1) (State.isArrayOf_alike hZ.alike Ar17.2.1) Ar17.2.2 hin17 hat17 (g := (mkF m 84 #[.val (.ref x), .val (.ref y), .val (.int (0 : Int32)), .val (.int (0 : Int32))] [(.int (0 : Int32)), (.ref wa)])) rfl rfl (hb hby d12_84)) ?_
          show own_G p e below s _ _ _ (T16.setTop (mkF m 85 #[.val (.ref x), .val (.ref y), .val (.int (0 : Int32)), .val (.int (0 : Int32))] [(.int w0)]))
          refine own_if_ne X16 hx (pc := 85) (pc' := 97) (hb hby d12_85) (by decide) (by decide) (fun hc85 => ?_) (fun hc85 => ?_)
          · show own_G p e below s _ _ _ (T16.setTop (mkF m 97 #[.val (.ref x), .val (.ref y), .val (.int (0 : Int32)), .val (.int (0 : Int32))] []))
            refine own_go (fun _ kk_ => XS.iconst X16.here hx rfl (hb hby d12_97) kk_) ?_
            show own_G p e below s _ _ _ (T16.setTop (mkF m 98 #[.val (.ref x), .val (.ref y), .val (.int (0 : Int32)), .val (.int (0 : Int32))] [(.int (1 : Int32))]))
            exact own_retN (t := .boolean) (ht := by simp) X16 hx Bd.returns (BodyLoose.notSynchronized Bd) (hb hby d12_98) e16 ⟨_, rfl, N6, rfl, Or.inl ⟨rfl, Or.inr (Or.inr (Or.inr (Or.inr (Or.inl ⟨by decide, by decide, ⟨hc76, Or.inl hc85⟩⟩))))⟩⟩ (by decide) (by decide)
          · show own_G p e below s _ _ _ (T16.setTop (mkF m 88 #[.val (.ref x), .val (.ref y), .val (.int (0 : Int32)), .val (.int (0 : Int32))] []))
            refine own_go (fun _ kk_ => XS.aloadN X16.here hx rfl (hb hby d12_88) rfl rfl kk_) ?_
            show own_G p e below s _ _ _ (T16.setTop (mkF m 89 #[.val (.ref x), .val (.ref y), .val (.int (0 : Int32)), .val (.int (0 : Int32))] [(.ref y)]))
            obtain ⟨T18, X18, e18, st18⟩ := getF X16 hx hZ hown (host := "") (Or.inl (hw _ (List.mem_of_getElem? (i := 44) rfl))) Via.refl e16 F_writes' (g := (mkF m 89 #[.val (.ref x), .val (.ref y), .val (.int (0 : Int32)), .val (.int (0 : Int32))] [(.ref y)])) rfl rfl (hb hby d12_89)
            refine own_go st18 ?_
            show own_G p e below s _ _ _ (T18.setTop (mkF m 92 #[.val (.ref x), .val (.ref y), .val (.int (0 : Int32)), .val (.int (0 : Int32))] [(.ref va)]))
            refine own_go (fun _ kk_ => XS.iloadN X18.here hx rfl (hb hby d12_92) rfl kk_) ?_
            show own_G p e below s _ _ _ (T18.setTop (mkF m 93 #[.val (.ref x), .val (.ref y), .val (.int (0 : Int32)), .val (.int (0 : Int32))] [(.int (0 : Int32)), (.ref va)]))
            have Vc19 := V_w'
            obtain ⟨cl19, Ar19, q19, S19, M19, H19, G19⟩ := Vc19
            have hin19 := inb_of (j := (0 : Int32)) S19 ⟨(by decide), (by decide)⟩
            have hat19 := H19.at hin19 (v := (.int v0)) rfl
            refine own_go (X18.baloadBooleans hx (j := (0 : Int32)) (v := (.int v0)) (by rw [e18]; exact Ar19.1) (State.isArrayOf_alike hZ.alike Ar19.2.1) Ar19.2.2 hin19 hat19 (g := (mkF m 93 #[.val (.ref x), .val (.ref y), .val (.int (0 : Int32)), .val (.int (0 : Int32))] [(.int (0 : Int32)), (.ref va)])) rfl rfl (hb hby d12_93)) ?_
            show own_G p e below s _ _ _ (T18.setTop (mkF m 94 #[.val (.ref x), .val (.ref y), .val (.int (0 : Int32)), .val (.int (0 : Int32))] [(.int v0)]))
            refine own_if_eq X18 hx (pc := 94) (pc' := 99) (hb hby d12_94) (by decide) (by decide) (fun hc94 => ?_) (fun hc94 => ?_)
            · exact J9 _ _ (X18.more (by decide) (by decide)) N6 e18 (fun q => q.2.elim (fun z => z hc85) (fun z => z hc94))
            · show own_G p e below s _ _ _ (T18.setTop (mkF m 97 #[.val (.ref x), .val (.ref y), .val (.int (0 : Int32)), .val (.int (0 : Int32))] []))
              refine own_go (fun _ kk_ => XS.iconst X18.here hx rfl (hb hby d12_97) kk_) ?_
              show own_G p e below s _ _ _ (T18.setTop (mkF m 98 #[.val (.ref x), .val (.ref y), .val (.int (0 : Int32)), .val (.int (0 : Int32))] [(.int (1 : Int32))]))
              exact own_retN (t := .boolean) (ht := by simp) X18 hx Bd.returns (BodyLoose.notSynchronized Bd) (hb hby d12_98) e18 ⟨_, rfl, N6, rfl, Or.inl ⟨rfl, Or.inr (Or.inr (Or.inr (Or.inr (Or.inl ⟨by decide, by decide, ⟨hc76, Or.inr hc94⟩⟩))))⟩⟩ (by decide) (by decide)
      intro T9 lo9 X9 N9 e9 hn00
      show own_G p e below s _ _ _ (T9.setTop (mkF m 99 #[.val (.ref x), .val (.ref y), .val (.int (0 : Int32)), .val (.int (0 : Int32))] []))
      suffices J20 : ∀ (T20 : State) (lo20 : List Loc), Stand p l e ({ frames := 0, cells := 0, slots := 0, locals := 0 } : Room) s m #[(.ref x), (.ref y)] below meth c T20 lo20 0 0 → Fr n0 lo20 → T20.heap = h0 → (¬ own_cf c0 w0 d1 v1) → own_G p e below s (Q_rmDp12 Z x ca wa y da va kc kw kd kv c0 c1 w0 w1 b1 r1 y1 d0 d1 v0 v1 b2 r2 y2 h0 n0) ({ frames := 0, cells := 0, slots := 0, locals := 0 } : Room).cells ({ frames := 0, cells := 0, slots := 0, locals := 0 } : Room).slots (T20.setTop (mkF m 99 #[.val (.ref x), .val (.ref y), .val (.int (0 : Int32)), .val (.int (1 : Int32))] [])) by
        show own_G p e below s _ _ _ (T9.setTop (mkF m 99 #[.val (.ref x), .val (.ref y), .val (.int (0 : Int32)), .val (.int (0 : Int32))] []))
        refine own_go (fun _ kk_ => XS.iinc X9.here hx rfl (hb hby d12_99) rfl (l' := #[.val (.ref x), .val (.ref y), .val (.int (0 : Int32)), .val (.int (1 : Int32))]) rfl kk_) ?_
        show own_G p e below s _ _ _ (T9.setTop (mkF m 102 #[.val (.ref x), .val (.ref y), .val (.int (0 : Int32)), .val (.int (1 : Int32))] []))
        refine own_go (fun _ kk_ => XS.goto X9.here hx rfl (pc0 := 102) (pc' := 56) rfl (hb hby d12_102) (by decide) (by decide) kk_) ?_
        show own_G p e below s _ _ _ (T9.setTop (mkF m 56 #[.val (.ref x), .val (.ref y), .val (.int (0 : Int32)), .val (.int (1 : Int32))] []))
        refine own_go (fun _ kk_ => XS.iloadN X9.here hx rfl (hb hby d12_56) rfl kk_) ?_
        show own_G p e below s _ _ _ (T9.setTop (mkF m 57 #[.val (.ref x), .val (.ref y), .val (.int (0 : Int32)), .val (.int (1 : Int32))] [(.int (1 : Int32))]))
        refine own_go (fun _ kk_ => XS.aloadN X9.here hx rfl (hb hby d12_57) rfl rfl kk_) ?_
        show own_G p e below s _ _ _ (T9.setTop (mkF m 58 #[.val (.ref x), .val (.ref y), .val (.int (0 : Int32)), .val (.int (1 : Int32))] [(.ref y), (.int (1 : Int32))]))
        obtain ⟨T21, X21, e21, st21⟩ := getF X9 hx hZ hown (host := "") (Or.inl (hw _ (List.mem_of_getElem? (i := 80) rfl))) Via.refl e9 F_touched' (g := (mkF m 58 #[.val (.ref x), .val (.ref y), .val (.int (0 : Int32)), .val (.int (1 : Int32))] [(.ref y), (.int (1 : Int32))])) rfl rfl (hb hby d12_58)
        refine own_go st21 ?_
        show own_G p e below s _ _ _ (T21.setTop (mkF m 61 #[.val (.ref x), .val (.ref y), .val (.int (0 : Int32)), .val (.int (1 : Int32))] [(.int (2 : Int32)), (.int (1 : Int32))]))
        refine own_ic_geN X21 hx (pc := 61) (hb hby d12_61) (by decide) ?_
        show own_G p e below s _ _ _ (T21.setTop (mkF m 64 #[.val (.ref x), .val (.ref y), .val (.int (0 : Int32)), .val (.int (1 : Int32))] []))
        refine own_go (fun _ kk_ => XS.aloadN X21.here hx rfl (hb hby d12_64) rfl rfl kk_) ?_
        show own_G p e below s _ _ _ (T21.setTop (mkF m 65 #[.val (.ref x), .val (.ref y), .val (.int (0 : Int32)), .val (.int (1 : Int32))] [(.ref x)]))
        obtain ⟨T22, X22, e22, st22⟩ := getF X21 hx hZ hown (host := "") (Or.inl (hw _ (List.mem_of_getElem? (i := 41) rfl))) Via.refl e21 F_cells (g := (mkF m 65 #[.val (.ref x), .val (.ref y), .val (.int (0 : Int32)), .val (.int (1 : Int32))] [(.ref x)])) rfl rfl (hb hby d12_65)
        refine own_go st22 ?_
        show own_G p e below s _ _ _ (T22.setTop (mkF m 68 #[.val (.ref x), .val (.ref y), .val (.int (0 : Int32)), .val (.int (1 : Int32))] [(.ref ca)]))
        refine own_go (fun _ kk_ => XS.iloadN X22.here hx rfl (hb hby d12_68) rfl kk_) ?_
        show own_G p e below s _ _ _ (T22.setTop (mkF m 69 #[.val (.ref x), .val (.ref y), .val (.int (0 : Int32)), .val (.int (1 : Int32))] [(.int (0 : Int32)), (.ref ca)]))
        have Vc23 := V_c
        obtain ⟨cl23, Ar23, q23, S23, M23, H23, G23⟩ := Vc23
        have hin23 := inb_of (j := (0 : Int32)) S23 ⟨(by decide), (by decide)⟩
        have hat23 := H23.at hin23 (v := (.int c0)) rfl
        refine own_go (X22.iaload hx (j := (0 : Int32)) (v := (.int c0)) (by rw [e22]; exact Ar23.1) (State.isArrayOf_alike hZ.alike Ar23.2.1) Ar23.2.2 hin23 hat23 (g := (mkF m 69 #[.val (.ref x), .val (.ref y), .val (.int (0 : Int32)), .val (.int (1 : Int32))] [(.int (0 : Int32)), (.ref ca)])) rfl rfl (hb hby d12_69)) ?_
        show own_G p e below s _ _ _ (T22.setTop (mkF m 70 #[.val (.ref x), .val (.ref y), .val (.int (0 : Int32)), .val (.int (1 : Int32))] [(.int c0)]))
        refine own_go (fun _ kk_ => XS.aloadN X22.here hx rfl (hb hby d12_70) rfl rfl kk_) ?_
        show own_G p e below s _ _ _ (T22.setTop (mkF m 71 #[.val (.ref x), .val (.ref y), .val (.int (0 : Int32)), .val (.int (1 : Int32))] [(.ref y), (.int c0)]))
        obtain ⟨T24, X24, e24, st24⟩ := getF X22 hx hZ hown (host := "") (Or.inl (hw _ (List.mem_of_getElem? (i := 41) rfl))) Via.refl e22 F_cells' (g := (mkF m 71 #[.val (.ref x), .val (.ref y), .val (.int (0 : Int32)), .val (.int (1 : Int32))] [(.ref y), (.int c0)])) rfl rfl (hb hby d12_71)
        refine own_go st24 ?_
        show own_G p e below s _ _ _ (T24.setTop (mkF m 74 #[.val (.ref x), .val (.ref y), .val (.int (0 : Int32)), .val (.int (1 : Int32))] [(.ref da), (.int c0)]))
        refine own_go (fun _ kk_ => XS.iloadN X24.here hx rfl (hb hby d12_74) rfl kk_) ?_
        show own_G p e below s _ _ _ (T24.setTop (mkF m 75 #[.val (.ref x), .val (.ref y), .val (.int (0 : Int32)), .val (.int (1 : Int32))] [(.int (1 : Int32)), (.ref da), (.int c0)]))
        have Vc25 := V_c'
        obtain ⟨cl25, Ar25, q25, S25, M25, H25, G25⟩ := Vc25
        have hin25 := inb_of (j := (1 : Int32)) S25 ⟨(by decide), (by decide)⟩
        have hat25 := H25.at hin25 (v := (.int d1)) rfl
        refine own_go (X24.iaload hx (j := (1 : Int32)) (v := (.int d1)) (by rw [e24]; exact Ar25.1) (State.isArrayOf_alike hZ.alike Ar25.2.1) Ar25.2.2 hin25 hat25 (g := (mkF m 75 #[.val (.ref x), .val (.ref y), .val (.int (0 : Int32)), .val (.int (1 : Int32))] [(.int (1 : Int32)), (.ref da), (.int c0)])) rfl rfl (hb hby d12_75)) ?_
        show own_G p e below s _ _ _ (T24.setTop (mkF m 76 #[.val (.ref x), .val (.ref y), .val (.int (0 : Int32)), .val (.int (1 : Int32))] [(.int d1), (.int c0)]))
        refine own_ic_ne X24 hx (pc := 76) (pc' := 99) (hb hby d12_76) (by decide) (by decide) (fun hc76 => ?_) (fun hc76 => ?_)
        · exact J20 _ _ (X24.more (by decide) (by decide)) N9 e24 (fun q => hc76 q.1)
        · show own_G p e below s _ _ _ (T24.setTop (mkF m 79 #[.val (.ref x), .val (.ref y), .val (.int (0 : Int32)), .val (.int (1 : Int32))] []))
          refine own_go (fun _ kk_ => XS.aloadN X24.here hx rfl (hb hby d12_79) rfl rfl kk_) ?_
          show own_G p e below s _ _ _ (T24.setTop (mkF m 80 #[.val (.ref x), .val (.ref y), .val (.int (0 : Int32)), .val (.int (1 : Int32))] [(.ref x)]))
          obtain ⟨T26, X26, e26, st26⟩ := getF X24 hx hZ hown (host := "") (Or.inl (hw _ (List.mem_of_getElem? (i := 44) rfl))) Via.refl e24 F_writes (g := (mkF m 80 #[.val (.ref x), .val (.ref y), .val (.int (0 : Int32)), .val (.int (1 : Int32))] [(.ref x)])) rfl rfl (hb hby d12_80)
          refine own_go st26 ?_
          show own_G p e below s _ _ _ (T26.setTop (mkF m 83 #[.val (.ref x), .val (.ref y), .val (.int (0 : Int32)), .val (.int (1 : Int32))] [(.ref wa)]))
          refine own_go (fun _ kk_ => XS.iloadN X26.here hx rfl (hb hby d12_83) rfl kk_) ?_
          show own_G p e below s _ _ _ (T26.setTop (mkF m 84 #[.val (.ref x), .val (.ref y), .val (.int (0 : Int32)), .val (.int (1 : Int32))] [(.int (0 : Int32)), (.ref wa)]))
          have Vc27 := V_w
          obtain ⟨cl27, Ar27, q27, S27, M27, H27, G27⟩ := Vc27
          have hin27 := inb_of (j := (0 : Int32)) S27 ⟨(by decide), (by decide)⟩
          have hat27 := H27.at hin27 (v := (.int w0)) rfl
          refine own_go (X26.baloadBooleans hx (j := (0 : Int32)) (v := (.int w0)) (by rw [e26]; exact Ar27.1) (State.isArrayOf_alike hZ.alike Ar27.2.1) Ar27.2.2 hin27 hat27 (g := (mkF m 84 #[.val (.ref x), .val (.ref y), .val (.int (0 : Int32)), .val (.int (1 : Int32))] [(.int (0 : Int32)), (.ref wa)])) rfl rfl (hb hby d12_84)) ?_
          show own_G p e below s _ _ _ (T26.setTop (mkF m 85 #[.val (.ref x), .val (.ref y), .val (.int (0 : Int32)), .val (.int (1 : Int32))] [(.int w0)]))
          refine own_if_ne X26 hx (pc := 85) (pc' := 97) (hb hby d12_85) (by decide) (by decide) (fun hc85 => ?_) (fun hc85 => ?_)
          · show own_G p e below s _ _ _ (T26.setTop (mkF m 97 #[.val (.ref x), .val (.ref y), .val (.int (0 : Int32)), .val (.int (1 : Int32))] []))
            refine own_go (fun _ kk_ => XS.iconst X26.here hx rfl (hb hby d12_97) kk_) ?_
            show own_G p e below s _ _ _ (T26.setTop (mkF m 98 #[.val (.ref x), .val (.ref y), .val (.int (0 : Int32)), .val (.int (1 : Int32))] [(.int (1 : Int32))]))
            exact own_retN (t := .boolean) (ht := by simp) X26 hx Bd.returns (BodyLoose.notSynchronized Bd) (hb hby d12_98) e26 ⟨_, rfl, N9, rfl, Or.inl ⟨rfl, Or.inr (Or.inr (Or.inr (Or.inr (Or.inr (Or.inl ⟨by decide, by decide, ⟨hc76, Or.inl hc85⟩⟩)))))⟩⟩ (by decide) (by decide)
          · show own_G p e below s _ _ _ (T26.setTop (mkF m 88 #[.val (.ref x), .val (.ref y), .val (.int (0 : Int32)), .val (.int (1 : Int32))] []))
            refine own_go (fun _ kk_ => XS.aloadN X26.here hx rfl (hb hby d12_88) rfl rfl kk_) ?_
            show own_G p e below s _ _ _ (T26.setTop (mkF m 89 #[.val (.ref x), .val (.ref y), .val (.int (0 : Int32)), .val (.int (1 : Int32))] [(.ref y)]))
            obtain ⟨T28, X28, e28, st28⟩ := getF X26 hx hZ hown (host := "") (Or.inl (hw _ (List.mem_of_getElem? (i := 44) rfl))) Via.refl e26 F_writes' (g := (mkF m 89 #[.val (.ref x), .val (.ref y), .val (.int (0 : Int32)), .val (.int (1 : Int32))] [(.ref y)])) rfl rfl (hb hby d12_89)
            refine own_go st28 ?_
            show own_G p e below s _ _ _ (T28.setTop (mkF m 92 #[.val (.ref x), .val (.ref y), .val (.int (0 : Int32)), .val (.int (1 : Int32))] [(.ref va)]))
            refine own_go (fun _ kk_ => XS.iloadN X28.here hx rfl (hb hby d12_92) rfl kk_) ?_
            show own_G p e below s _ _ _ (T28.setTop (mkF m 93 #[.val (.ref x), .val (.ref y), .val (.int (0 : Int32)), .val (.int (1 : Int32))] [(.int (1 : Int32)), (.ref va)]))
            have Vc29 := V_w'
            obtain ⟨cl29, Ar29, q29, S29, M29, H29, G29⟩ := Vc29
            have hin29 := inb_of (j := (1 : Int32)) S29 ⟨(by decide), (by decide)⟩
            have hat29 := H29.at hin29 (v := (.int v1)) rfl
            refine own_go (X28.baloadBooleans hx (j := (1 : Int32)) (v := (.int v1)) (by rw [e28]; exact Ar29.1) (State.isArrayOf_alike hZ.alike Ar29.2.1) Ar29.2.2 hin29 hat29 (g := (mkF m 93 #[.val (.ref x), .val (.ref y), .val (.int (0 : Int32)), .val (.int (1 : Int32))] [(.int (1 : Int32)), (.ref va)])) rfl rfl (hb hby d12_93)) ?_
            show own_G p e below s _ _ _ (T28.setTop (mkF m 94 #[.val (.ref x), .val (.ref y), .val (.int (0 : Int32)), .val (.int (1 : Int32))] [(.int v1)]))
            refine own_if_eq X28 hx (pc := 94) (pc' := 99) (hb hby d12_94) (by decide) (by decide) (fun hc94 => ?_) (fun hc94 => ?_)
            · exact J20 _ _ (X28.more (by decide) (by decide)) N9 e28 (fun q => q.2.elim (fun z => z hc85) (fun z => z hc94))
            · show own_G p e below s _ _ _ (T28.setTop (mkF m 97 #[.val (.ref x), .val (.ref y), .val (.int (0 : Int32)), .val (.int (1 : Int32))] []))
              refine own_go (fun _ kk_ => XS.iconst X28.here hx rfl (hb hby d12_97) kk_) ?_
              show own_G p e below s _ _ _ (T28.setTop (mkF m 98 #[.val (.ref x), .val (.ref y), .val (.int (0 : Int32)), .val (.int (1 : Int32))] [(.int (1 : Int32))]))
              exact own_retN (t := .boolean) (ht := by simp) X28 hx Bd.returns (BodyLoose.notSynchronized Bd) (hb hby d12_98) e28 ⟨_, rfl, N9, rfl, Or.inl ⟨rfl, Or.inr (Or.inr (Or.inr (Or.inr (Or.inr (Or.inl ⟨by decide, by decide, ⟨hc76, Or.inr hc94⟩⟩)))))⟩⟩ (by decide) (by decide)
      intro T20 lo20 X20 N20 e20 hn01
      show own_G p e below s _ _ _ (T20.setTop (mkF m 99 #[.val (.ref x), .val (.ref y), .val (.int (0 : Int32)), .val (.int (1 : Int32))] []))
      show own_G p e below s _ _ _ (T20.setTop (mkF m 99 #[.val (.ref x), .val (.ref y), .val (.int (0 : Int32)), .val (.int (1 : Int32))] []))
      refine own_go (fun _ kk_ => XS.iinc X20.here hx rfl (hb hby d12_99) rfl (l' := #[.val (.ref x), .val (.ref y), .val (.int (0 : Int32)), .val (.int (2 : Int32))]) rfl kk_) ?_
      show own_G p e below s _ _ _ (T20.setTop (mkF m 102 #[.val (.ref x), .val (.ref y), .val (.int (0 : Int32)), .val (.int (2 : Int32))] []))
      refine own_go (fun _ kk_ => XS.goto X20.here hx rfl (pc0 := 102) (pc' := 56) rfl (hb hby d12_102) (by decide) (by decide) kk_) ?_
      show own_G p e below s _ _ _ (T20.setTop (mkF m 56 #[.val (.ref x), .val (.ref y), .val (.int (0 : Int32)), .val (.int (2 : Int32))] []))
      refine own_go (fun _ kk_ => XS.iloadN X20.here hx rfl (hb hby d12_56) rfl kk_) ?_
      show own_G p e below s _ _ _ (T20.setTop (mkF m 57 #[.val (.ref x), .val (.ref y), .val (.int (0 : Int32)), .val (.int (2 : Int32))] [(.int (2 : Int32))]))
      refine own_go (fun _ kk_ => XS.aloadN X20.here hx rfl (hb hby d12_57) rfl rfl kk_) ?_
      show own_G p e below s _ _ _ (T20.setTop (mkF m 58 #[.val (.ref x), .val (.ref y), .val (.int (0 : Int32)), .val (.int (2 : Int32))] [(.ref y), (.int (2 : Int32))]))
      obtain ⟨T30, X30, e30, st30⟩ := getF X20 hx hZ hown (host := "") (Or.inl (hw _ (List.mem_of_getElem? (i := 80) rfl))) Via.refl e20 F_touched' (g := (mkF m 58 #[.val (.ref x), .val (.ref y), .val (.int (0 : Int32)), .val (.int (2 : Int32))] [(.ref y), (.int (2 : Int32))])) rfl rfl (hb hby d12_58)
      refine own_go st30 ?_
      show own_G p e below s _ _ _ (T30.setTop (mkF m 61 #[.val (.ref x), .val (.ref y), .val (.int (0 : Int32)), .val (.int (2 : Int32))] [(.int (2 : Int32)), (.int (2 : Int32))]))
      refine own_ic_geY X30 hx (pc := 61) (pc' := 105) (hb hby d12_61) (by decide) (by decide) (by decide) ?_
      show own_G p e below s _ _ _ (T30.setTop (mkF m 105 #[.val (.ref x), .val (.ref y), .val (.int (0 : Int32)), .val (.int (2 : Int32))] []))
      refine own_go (fun _ kk_ => XS.iinc X30.here hx rfl (hb hby d12_105) rfl (l' := #[.val (.ref x), .val (.ref y), .val (.int (1 : Int32)), .val (.int (2 : Int32))]) rfl kk_) ?_
      show own_G p e below s _ _ _ (T30.setTop (mkF m 108 #[.val (.ref x), .val (.ref y), .val (.int (1 : Int32)), .val (.int (2 : Int32))] []))
      refine own_go (fun _ kk_ => XS.goto X30.here hx rfl (pc0 := 108) (pc' := 46) rfl (hb hby d12_108) (by decide) (by decide) kk_) ?_
      show own_G p e below s _ _ _ (T30.setTop (mkF m 46 #[.val (.ref x), .val (.ref y), .val (.int (1 : Int32)), .val (.int (2 : Int32))] []))
      refine own_go (fun _ kk_ => XS.iloadN X30.here hx rfl (hb hby d12_46) rfl kk_) ?_
      show own_G p e below s _ _ _ (T30.setTop (mkF m 47 #[.val (.ref x), .val (.ref y), .val (.int (1 : Int32)), .val (.int (2 : Int32))] [(.int (1 : Int32))]))
      refine own_go (fun _ kk_ => XS.aloadN X30.here hx rfl (hb hby d12_47) rfl rfl kk_) ?_
      show own_G p e below s _ _ _ (T30.setTop (mkF m 48 #[.val (.ref x), .val (.ref y), .val (.int (1 : Int32)), .val (.int (2 : Int32))] [(.ref x), (.int (1 : Int32))]))
      obtain ⟨T31, X31, e31, st31⟩ := getF X30 hx hZ hown (host := "") (Or.inl (hw _ (List.mem_of_getElem? (i := 80) rfl))) Via.refl e30 F_touched (g := (mkF m 48 #[.val (.ref x), .val (.ref y), .val (.int (1 : Int32)), .val (.int (2 : Int32))] [(.ref x), (.int (1 : Int32))])) rfl rfl (hb hby d12_48)
      refine own_go st31 ?_
      show own_G p e below s _ _ _ (T31.setTop (mkF m 51 #[.val (.ref x), .val (.ref y), .val (.int (1 : Int32)), .val (.int (2 : Int32))] [(.int (1 : Int32)), (.int (1 : Int32))]))
      refine own_ic_geY X31 hx (pc := 51) (pc' := 111) (hb hby d12_51) (by decide) (by decide) (by decide) ?_
      show own_G p e below s _ _ _ (T31.setTop (mkF m 111 #[.val (.ref x), .val (.ref y), .val (.int (1 : Int32)), .val (.int (2 : Int32))] []))
      refine own_go (fun _ kk_ => XS.iconst X31.here hx rfl (hb hby d12_111) kk_) ?_
      show own_G p e below s _ _ _ (T31.setTop (mkF m 112 #[.val (.ref x), .val (.ref y), .val (.int (1 : Int32)), .val (.int (2 : Int32))] [(.int (0 : Int32))]))
      exact own_retN (t := .boolean) (ht := by simp) X31 hx Bd.returns (BodyLoose.notSynchronized Bd) (hb hby d12_112) e31 ⟨_, rfl, N20, rfl, Or.inr ⟨rfl, own_Dno hc4 hc11 hbr hrb (fun q => q.elim (fun q => hn00 q.2.2) (fun q => q.elim (fun q => hn01 q.2.2) (fun q => q.elim (fun q => absurd q.1 (by decide)) (fun q => absurd q.1 (by decide)))))⟩⟩ (by decide) (by decide)
theorem ef_rmDp20 (m : MethodId) (x0 : Addr) (x1 : Addr) : entryFrame m #[(.ref x0), (.ref x1)] 4 = mkF m 0 #[.val (.ref x0), .val (.ref x1), .unset, .unset] [] := by first | (simp [entryFrame, mkF, argsToLocals, Value.category]; done) | rfl
def Q_rmDp20 (Z : State) (x ca wa y da va : Addr) (kc kw kd kv : ClassId) (c0 c1 w0 w1 b1 r1 y1 d0 d1 v0 v1 b2 r2 y2 : Int32) (h0 : Heap) (n0 : Nat) : Option Value → Heap → List Loc → Prop := fun v h L => ∃ B : Int32, v = some (.int B) ∧ Fr n0 L ∧ h = h0 ∧ ((B = 1 ∧ (own_D y1 y2 b1 r1 b2 r2 (own_C 2 0 c0 c1 w0 w1 d0 d1 v0 v1))) ∨ (B = 0 ∧ ¬ (own_D y1 y2 b1 r1 b2 r2 (own_C 2 0 c0 c1 w0 w1 d0 d1 v0 v1))))
set_option maxRecDepth 65536 in
set_option maxHeartbeats 40000000 in
theorem rmDp20 (l : Launch) (Z : State) (a0 : Array Value) (hw : ∀ d ∈ tables_1, d.before a0 Z = true) (ws : List Jvm.Cond) (x ca wa y da va : Addr) (kc kw kd kv : ClassId) (c0 c1 w0 w1 b1 r1 y1 d0 d1 v0 v1 b2 r2 y2 : Int32) (h0 : Heap) (n0 : Nat) (Z0 : n0 ≤ h0.size) (FP : own_FP Z h0 x ca wa kc kw 2 c0 c1 w0 w1 b1 r1 y1) (FQ : own_FP Z h0 y da va kd kv 0 d0 d1 v0 v1 b2 r2 y2) :
    MetFree l (⟨"com/example/relyguard/relyguard/Footprint", "dependsOn", "(Lcom/example/relyguard/relyguard/Footprint;)Z"⟩ : MethodName) (head1 (Jvm.Cond.code (⟨"com/example/relyguard/relyguard/Footprint", "dependsOn", "(Lcom/example/relyguard/relyguard/Footprint;)Z"⟩ : MethodName) prog_47_method_13_code 4 (some .boolean) :: ws) ({ frames := 0, cells := 0, slots := 0, locals := 0 } : Room)) (fun as_ U => as_ = #[(.ref x), (.ref y)] ∧ Z.Warmed39 U.vm ∧ U.heap = h0) (fun _ _ _ _ _ => True) (fun _ U o U' => ∃ v L, o = .returned v ∧ (Q_rmDp20 Z x ca wa y da va kc kw kd kv c0 c1 w0 w1 b1 r1 y1 d0 d1 v0 v1 b2 r2 y2 h0 n0) v U'.heap L ∧ FrameEnd U o U' L ({ frames := 0, cells := 0, slots := 0, locals := 0 } : Room).cells ({ frames := 0, cells := 0, slots := 0, locals := 0 } : Room).slots) := by
  refine MetFree.of_bodySF (plainFor_of_name pn_2) hisR ?_
  intro p e s m args below meth c s₁ Bd hml0 hP hK
  obtain ⟨rfl, hZ, hh⟩ := hP
  have hx := Bd.exec
  have hby := Bd.bytes
  have hml : c.maxLocals = 4 := hml0
  have hown : s.vm.findClass "com/example/relyguard/relyguard/Footprint" = some m.cls := findClass_of_methodNamed Bd.named
  have hnm := (name_of_methodNamed Bd.named Bd.method).1
  have X0 : Stand p l e ({ frames := 0, cells := 0, slots := 0, locals := 0 } : Room) s m #[(.ref x), (.ref y)] below meth c s₁ [] 0 0 := Stand.of_body Bd
  have e0 : s₁.heap = h0 := by rw [← hh, Bd.state]; rfl
  have N0 := Fr.nil n0
  show own_G p e below s (Q_rmDp20 Z x ca wa y da va kc kw kd kv c0 c1 w0 w1 b1 r1 y1 d0 d1 v0 v1 b2 r2 y2 h0 n0) ({ frames := 0, cells := 0, slots := 0, locals := 0 } : Room).cells ({ frames := 0, cells := 0, slots := 0, locals := 0 } : Room).slots (s₁.setTop (entryFrame m #[(.ref x), (.ref y)] 4))
  rw [ef_rmDp20 m x y]
  obtain ⟨⟨E_x, F_cells, F_writes, F_touched, F_begins, F_returns, F_endsRun⟩, ⟨V_c, V_w⟩, ne1, ne2, ne3⟩ := FP
  obtain ⟨⟨E_x', F_cells', F_writes', F_touched', F_begins', F_returns', F_endsRun'⟩, ⟨V_c', V_w'⟩, ne1', ne2', ne3'⟩ := FQ
  show own_G p e below s _ _ _ (s₁.setTop (mkF m 0 #[.val (.ref x), .val (.ref y), .unset, .unset] []))
  refine own_go (fun _ kk_ => XS.aloadN X0.here hx rfl (hb hby d12_0) rfl rfl kk_) ?_
  show own_G p e below s _ _ _ (s₁.setTop (mkF m 1 #[.val (.ref x), .val (.ref y), .unset, .unset] [(.ref x)]))
  obtain ⟨T1, X1, e1, st1⟩ := getF X0 hx hZ hown (host := "") (Or.inl (hw _ (List.mem_of_getElem? (i := 74) rfl))) Via.refl e0 F_endsRun (g := (mkF m 1 #[.val (.ref x), .val (.ref y), .unset, .unset] [(.ref x)])) rfl rfl (hb hby d12_1)
  refine own_go st1 ?_
  show own_G p e below s _ _ _ (T1.setTop (mkF m 4 #[.val (.ref x), .val (.ref y), .unset, .unset] [(.int y1)]))
  refine own_if_ne X1 hx (pc := 4) (pc' := 42) (hb hby d12_4) (by decide) (by decide) (fun hc4 => ?_) (fun hc4 => ?_)
  · show own_G p e below s _ _ _ (T1.setTop (mkF m 42 #[.val (.ref x), .val (.ref y), .unset, .unset] []))
    refine own_go (fun _ kk_ => XS.iconst X1.here hx rfl (hb hby d12_42) kk_) ?_
    show own_G p e below s _ _ _ (T1.setTop (mkF m 43 #[.val (.ref x), .val (.ref y), .unset, .unset] [(.int (1 : Int32))]))
    exact own_retN (t := .boolean) (ht := by simp) X1 hx Bd.returns (BodyLoose.notSynchronized Bd) (hb hby d12_43) e1 ⟨_, rfl, N0, rfl, Or.inl ⟨rfl, Or.inl hc4⟩⟩ (by decide) (by decide)
  · show own_G p e below s _ _ _ (T1.setTop (mkF m 7 #[.val (.ref x), .val (.ref y), .unset, .unset] []))
    refine own_go (fun _ kk_ => XS.aloadN X1.here hx rfl (hb hby d12_7) rfl rfl kk_) ?_
    show own_G p e below s _ _ _ (T1.setTop (mkF m 8 #[.val (.ref x), .val (.ref y), .unset, .unset] [(.ref y)]))
    obtain ⟨T2, X2, e2, st2⟩ := getF X1 hx hZ hown (host := "") (Or.inl (hw _ (List.mem_of_getElem? (i := 74) rfl))) Via.refl e1 F_endsRun' (g := (mkF m 8 #[.val (.ref x), .val (.ref y), .unset, .unset] [(.ref y)])) rfl rfl (hb hby d12_8)
    refine own_go st2 ?_
    show own_G p e below s _ _ _ (T2.setTop (mkF m 11 #[.val (.ref x), .val (.ref y), .unset, .unset] [(.int y2)]))
    refine own_if_ne X2 hx (pc := 11) (pc' := 42) (hb hby d12_11) (by decide) (by decide) (fun hc11 => ?_) (fun hc11 => ?_)
    · show own_G p e below s _ _ _ (T2.setTop (mkF m 42 #[.val (.ref x), .val (.ref y), .unset, .unset] []))
      refine own_go (fun _ kk_ => XS.iconst X2.here hx rfl (hb hby d12_42) kk_) ?_
      show own_G p e below s _ _ _ (T2.setTop (mkF m 43 #[.val (.ref x), .val (.ref y), .unset, .unset] [(.int (1 : Int32))]))
      exact own_retN (t := .boolean) (ht := by simp) X2 hx Bd.returns (BodyLoose.notSynchronized Bd) (hb hby d12_43) e2 ⟨_, rfl, N0, rfl, Or.inl ⟨rfl, Or.inr (Or.inl hc11)⟩⟩ (by decide) (by decide)
    · suffices J3 : ∀ (T3 : State) (lo3 : List Loc), Stand p l e ({ frames := 0, cells := 0, slots := 0, locals := 0 } : Room) s m #[(.ref x), (.ref y)] below meth c T3 lo3 0 0 → Fr n0 lo3 → T3.heap = h0 → (¬ (¬ b1 = 0 ∧ ¬ r2 = 0)) → own_G p e below s (Q_rmDp20 Z x ca wa y da va kc kw kd kv c0 c1 w0 w1 b1 r1 y1 d0 d1 v0 v1 b2 r2 y2 h0 n0) ({ frames := 0, cells := 0, slots := 0, locals := 0 } : Room).cells ({ frames := 0, cells := 0, slots := 0, locals := 0 } : Room).slots (T3.setTop (mkF m 28 #[.val (.ref x), .val (.ref y), .unset, .unset] [])) by
        show own_G p e below s _ _ _ (T2.setTop (mkF m 14 #[.val (.ref x), .val (.ref y), .unset, .unset] []))
        refine own_go (fun _ kk_ => XS.aloadN X2.here hx rfl (hb hby d12_14) rfl rfl kk_) ?_
        show own_G p e below s _ _ _ (T2.setTop (mkF m 15 #[.val (.ref x), .val (.ref y), .unset, .unset] [(.ref x)]))
        obtain ⟨T4, X4, e4, st4⟩ := getF X2 hx hZ hown (host := "") (Or.inl (hw _ (List.mem_of_getElem? (i := 76) rfl))) Via.refl e2 F_begins (g := (mkF m 15 #[.val (.ref x), .val (.ref y), .unset, .unset] [(.ref x)])) rfl rfl (hb hby d12_15)
        refine own_go st4 ?_
        show own_G p e below s _ _ _ (T4.setTop (mkF m 18 #[.val (.ref x), .val (.ref y), .unset, .unset] [(.int b1)]))
        refine own_if_eq X4 hx (pc := 18) (pc' := 28) (hb hby d12_18) (by decide) (by decide) (fun hc18 => ?_) (fun hc18 => ?_)
        · exact J3 _ _ (X4.more (by decide) (by decide)) N0 e4 (fun q => q.1 hc18)
        · show own_G p e below s _ _ _ (T4.setTop (mkF m 21 #[.val (.ref x), .val (.ref y), .unset, .unset] []))
          refine own_go (fun _ kk_ => XS.aloadN X4.here hx rfl (hb hby d12_21) rfl rfl kk_) ?_
          show own_G p e below s _ _ _ (T4.setTop (mkF m 22 #[.val (.ref x), .val (.ref y), .unset, .unset] [(.ref y)]))
          obtain ⟨T5, X5, e5, st5⟩ := getF X4 hx hZ hown (host := "") (Or.inl (hw _ (List.mem_of_getElem? (i := 78) rfl))) Via.refl e4 F_returns' (g := (mkF m 22 #[.val (.ref x), .val (.ref y), .unset, .unset] [(.ref y)])) rfl rfl (hb hby d12_22)
          refine own_go st5 ?_
          show own_G p e below s _ _ _ (T5.setTop (mkF m 25 #[.val (.ref x), .val (.ref y), .unset, .unset] [(.int r2)]))
          refine own_if_ne X5 hx (pc := 25) (pc' := 42) (hb hby d12_25) (by decide) (by decide) (fun hc25 => ?_) (fun hc25 => ?_)
          · show own_G p e below s _ _ _ (T5.setTop (mkF m 42 #[.val (.ref x), .val (.ref y), .unset, .unset] []))
            refine own_go (fun _ kk_ => XS.iconst X5.here hx rfl (hb hby d12_42) kk_) ?_
            show own_G p e below s _ _ _ (T5.setTop (mkF m 43 #[.val (.ref x), .val (.ref y), .unset, .unset] [(.int (1 : Int32))]))
            exact own_retN (t := .boolean) (ht := by simp) X5 hx Bd.returns (BodyLoose.notSynchronized Bd) (hb hby d12_43) e5 ⟨_, rfl, N0, rfl, Or.inl ⟨rfl, Or.inr (Or.inr (Or.inl ⟨hc18, hc25⟩))⟩⟩ (by decide) (by decide)
          · exact J3 _ _ (X5.more (by decide) (by decide)) N0 e5 (fun q => q.2 hc25)
      intro T3 lo3 X3 N3 e3 hbr
      show own_G p e below s _ _ _ (T3.setTop (mkF m 28 #[.val (.ref x), .val (.ref y), .unset, .unset] []))
      suffices J6 : ∀ (T6 : State) (lo6 : List Loc), Stand p l e ({ frames := 0, cells := 0, slots := 0, locals := 0 } : Room) s m #[(.ref x), (.ref y)] below meth c T6 lo6 0 0 → Fr n0 lo6 → T6.heap = h0 → (¬ (¬ r1 = 0 ∧ ¬ b2 = 0)) → own_G p e below s (Q_rmDp20 Z x ca wa y da va kc kw kd kv c0 c1 w0 w1 b1 r1 y1 d0 d1 v0 v1 b2 r2 y2 h0 n0) ({ frames := 0, cells := 0, slots := 0, locals := 0 } : Room).cells ({ frames := 0, cells := 0, slots := 0, locals := 0 } : Room).slots (T6.setTop (mkF m 44 #[.val (.ref x), .val (.ref y), .unset, .unset] [])) by
        show own_G p e below s _ _ _ (T3.setTop (mkF m 28 #[.val (.ref x), .val (.ref y), .unset, .unset] []))
        refine own_go (fun _ kk_ => XS.aloadN X3.here hx rfl (hb hby d12_28) rfl rfl kk_) ?_
        show own_G p e below s _ _ _ (T3.setTop (mkF m 29 #[.val (.ref x), .val (.ref y), .unset, .unset] [(.ref x)]))
        obtain ⟨T7, X7, e7, st7⟩ := getF X3 hx hZ hown (host := "") (Or.inl (hw _ (List.mem_of_getElem? (i := 78) rfl))) Via.refl e3 F_returns (g := (mkF m 29 #[.val (.ref x), .val (.ref y), .unset, .unset] [(.ref x)])) rfl rfl (hb hby d12_29)
        refine own_go st7 ?_
        show own_G p e below s _ _ _ (T7.setTop (mkF m 32 #[.val (.ref x), .val (.ref y), .unset, .unset] [(.int r1)]))
        refine own_if_eq X7 hx (pc := 32) (pc' := 44) (hb hby d12_32) (by decide) (by decide) (fun hc32 => ?_) (fun hc32 => ?_)
        · exact J6 _ _ (X7.more (by decide) (by decide)) N3 e7 (fun q => q.1 hc32)
        · show own_G p e below s _ _ _ (T7.setTop (mkF m 35 #[.val (.ref x), .val (.ref y), .unset, .unset] []))
          refine own_go (fun _ kk_ => XS.aloadN X7.here hx rfl (hb hby d12_35) rfl rfl kk_) ?_
          show own_G p e below s _ _ _ (T7.setTop (mkF m 36 #[.val (.ref x), .val (.ref y), .unset, .unset] [(.ref y)]))
          obtain ⟨T8, X8, e8, st8⟩ := getF X7 hx hZ hown (host := "") (Or.inl (hw _ (List.mem_of_getElem? (i := 76) rfl))) Via.refl e7 F_begins' (g := (mkF m 36 #[.val (.ref x), .val (.ref y), .unset, .unset] [(.ref y)])) rfl rfl (hb hby d12_36)
          refine own_go st8 ?_
          show own_G p e below s _ _ _ (T8.setTop (mkF m 39 #[.val (.ref x), .val (.ref y), .unset, .unset] [(.int b2)]))
          refine own_if_eq X8 hx (pc := 39) (pc' := 44) (hb hby d12_39) (by decide) (by decide) (fun hc39 => ?_) (fun hc39 => ?_)
          · exact J6 _ _ (X8.more (by decide) (by decide)) N3 e8 (fun q => q.2 hc39)
          · show own_G p e below s _ _ _ (T8.setTop (mkF m 42 #[.val (.ref x), .val (.ref y), .unset, .unset] []))
            refine own_go (fun _ kk_ => XS.iconst X8.here hx rfl (hb hby d12_42) kk_) ?_
            show own_G p e below s _ _ _ (T8.setTop (mkF m 43 #[.val (.ref x), .val (.ref y), .unset, .unset] [(.int (1 : Int32))]))
            exact own_retN (t := .boolean) (ht := by simp) X8 hx Bd.returns (BodyLoose.notSynchronized Bd) (hb hby d12_43) e8 ⟨_, rfl, N3, rfl, Or.inl ⟨rfl, Or.inr (Or.inr (Or.inr (Or.inl ⟨hc32, hc39⟩)))⟩⟩ (by decide) (by decide)
      intro T6 lo6 X6 N6 e6 hrb
      show own_G p e below s _ _ _ (T6.setTop (mkF m 44 #[.val (.ref x), .val (.ref y), .unset, .unset] []))
      show own_G p e below s _ _ _ (T6.setTop (mkF m 44 #[.val (.ref x), .val (.ref y), .unset, .unset] []))
      refine own_go (fun _ kk_ => XS.iconst X6.here hx rfl (hb hby d12_44) kk_) ?_
      show own_G p e below s _ _ _ (T6.setTop (mkF m 45 #[.val (.ref x), .val (.ref y), .unset, .unset] [(.int (0 : Int32))]))
      refine own_go (fun _ kk_ => XS.istoreN X6.here hx rfl (hb hby d12_45) rfl (l' := #[.val (.ref x), .val (.ref y), .val (.int (0 : Int32)), .unset]) rfl kk_) ?_
      show own_G p e below s _ _ _ (T6.setTop (mkF m 46 #[.val (.ref x), .val (.ref y), .val (.int (0 : Int32)), .unset] []))
      refine own_go (fun _ kk_ => XS.iloadN X6.here hx rfl (hb hby d12_46) rfl kk_) ?_
      show own_G p e below s _ _ _ (T6.setTop (mkF m 47 #[.val (.ref x), .val (.ref y), .val (.int (0 : Int32)), .unset] [(.int (0 : Int32))]))
      refine own_go (fun _ kk_ => XS.aloadN X6.here hx rfl (hb hby d12_47) rfl rfl kk_) ?_
      show own_G p e below s _ _ _ (T6.setTop (mkF m 48 #[.val (.ref x), .val (.ref y), .val (.int (0 : Int32)), .unset] [(.ref x), (.int (0 : Int32))]))
      obtain ⟨T9, X9, e9, st9⟩ := getF X6 hx hZ hown (host := "") (Or.inl (hw _ (List.mem_of_getElem? (i := 80) rfl))) Via.refl e6 F_touched (g := (mkF m 48 #[.val (.ref x), .val (.ref y), .val (.int (0 : Int32)), .unset] [(.ref x), (.int (0 : Int32))])) rfl rfl (hb hby d12_48)
      refine own_go st9 ?_
      show own_G p e below s _ _ _ (T9.setTop (mkF m 51 #[.val (.ref x), .val (.ref y), .val (.int (0 : Int32)), .unset] [(.int (2 : Int32)), (.int (0 : Int32))]))
      refine own_ic_geN X9 hx (pc := 51) (hb hby d12_51) (by decide) ?_
      show own_G p e below s _ _ _ (T9.setTop (mkF m 54 #[.val (.ref x), .val (.ref y), .val (.int (0 : Int32)), .unset] []))
      refine own_go (fun _ kk_ => XS.iconst X9.here hx rfl (hb hby d12_54) kk_) ?_
      show own_G p e below s _ _ _ (T9.setTop (mkF m 55 #[.val (.ref x), .val (.ref y), .val (.int (0 : Int32)), .unset] [(.int (0 : Int32))]))
      refine own_go (fun _ kk_ => XS.istoreN X9.here hx rfl (hb hby d12_55) rfl (l' := #[.val (.ref x), .val (.ref y), .val (.int (0 : Int32)), .val (.int (0 : Int32))]) rfl kk_) ?_
      show own_G p e below s _ _ _ (T9.setTop (mkF m 56 #[.val (.ref x), .val (.ref y), .val (.int (0 : Int32)), .val (.int (0 : Int32))] []))
      refine own_go (fun _ kk_ => XS.iloadN X9.here hx rfl (hb hby d12_56) rfl kk_) ?_
      show own_G p e below s _ _ _ (T9.setTop (mkF m 57 #[.val (.ref x), .val (.ref y), .val (.int (0 : Int32)), .val (.int (0 : Int32))] [(.int (0 : Int32))]))
      refine own_go (fun _ kk_ => XS.aloadN X9.here hx rfl (hb hby d12_57) rfl rfl kk_) ?_
      show own_G p e below s _ _ _ (T9.setTop (mkF m 58 #[.val (.ref x), .val (.ref y), .val (.int (0 : Int32)), .val (.int (0 : Int32))] [(.ref y), (.int (0 : Int32))]))
      obtain ⟨T10, X10, e10, st10⟩ := getF X9 hx hZ hown (host := "") (Or.inl (hw _ (List.mem_of_getElem? (i := 80) rfl))) Via.refl e9 F_touched' (g := (mkF m 58 #[.val (.ref x), .val (.ref y), .val (.int (0 : Int32)), .val (.int (0 : Int32))] [(.ref y), (.int (0 : Int32))])) rfl rfl (hb hby d12_58)
      refine own_go st10 ?_
      show own_G p e below s _ _ _ (T10.setTop (mkF m 61 #[.val (.ref x), .val (.ref y), .val (.int (0 : Int32)), .val (.int (0 : Int32))] [(.int (0 : Int32)), (.int (0 : Int32))]))
      refine own_ic_geY X10 hx (pc := 61) (pc' := 105) (hb hby d12_61) (by decide) (by decide) (by decide) ?_
      show own_G p e below s _ _ _ (T10.setTop (mkF m 105 #[.val (.ref x), .val (.ref y), .val (.int (0 : Int32)), .val (.int (0 : Int32))] []))
      refine own_go (fun _ kk_ => XS.iinc X10.here hx rfl (hb hby d12_105) rfl (l' := #[.val (.ref x), .val (.ref y), .val (.int (1 : Int32)), .val (.int (0 : Int32))]) rfl kk_) ?_
      show own_G p e below s _ _ _ (T10.setTop (mkF m 108 #[.val (.ref x), .val (.ref y), .val (.int (1 : Int32)), .val (.int (0 : Int32))] []))
      refine own_go (fun _ kk_ => XS.goto X10.here hx rfl (pc0 := 108) (pc' := 46) rfl (hb hby d12_108) (by decide) (by decide) kk_) ?_
      show own_G p e below s _ _ _ (T10.setTop (mkF m 46 #[.val (.ref x), .val (.ref y), .val (.int (1 : Int32)), .val (.int (0 : Int32))] []))
      refine own_go (fun _ kk_ => XS.iloadN X10.here hx rfl (hb hby d12_46) rfl kk_) ?_
      show own_G p e below s _ _ _ (T10.setTop (mkF m 47 #[.val (.ref x), .val (.ref y), .val (.int (1 : Int32)), .val (.int (0 : Int32))] [(.int (1 : Int32))]))
      refine own_go (fun _ kk_ => XS.aloadN X10.here hx rfl (hb hby d12_47) rfl rfl kk_) ?_
      show own_G p e below s _ _ _ (T10.setTop (mkF m 48 #[.val (.ref x), .val (.ref y), .val (.int (1 : Int32)), .val (.int (0 : Int32))] [(.ref x), (.int (1 : Int32))]))
      obtain ⟨T11, X11, e11, st11⟩ := getF X10 hx hZ hown (host := "") (Or.inl (hw _ (List.mem_of_getElem? (i := 80) rfl))) Via.refl e10 F_touched (g := (mkF m 48 #[.val (.ref x), .val (.ref y), .val (.int (1 : Int32)), .val (.int (0 : Int32))] [(.ref x), (.int (1 : Int32))])) rfl rfl (hb hby d12_48)
      refine own_go st11 ?_
      show own_G p e below s _ _ _ (T11.setTop (mkF m 51 #[.val (.ref x), .val (.ref y), .val (.int (1 : Int32)), .val (.int (0 : Int32))] [(.int (2 : Int32)), (.int (1 : Int32))]))
      refine own_ic_geN X11 hx (pc := 51) (hb hby d12_51) (by decide) ?_
      show own_G p e below s _ _ _ (T11.setTop (mkF m 54 #[.val (.ref x), .val (.ref y), .val (.int (1 : Int32)), .val (.int (0 : Int32))] []))
      refine own_go (fun _ kk_ => XS.iconst X11.here hx rfl (hb hby d12_54) kk_) ?_
      show own_G p e below s _ _ _ (T11.setTop (mkF m 55 #[.val (.ref x), .val (.ref y), .val (.int (1 : Int32)), .val (.int (0 : Int32))] [(.int (0 : Int32))]))
      refine own_go (fun _ kk_ => XS.istoreN X11.here hx rfl (hb hby d12_55) rfl (l' := #[.val (.ref x), .val (.ref y), .val (.int (1 : Int32)), .val (.int (0 : Int32))]) rfl kk_) ?_
      show own_G p e below s _ _ _ (T11.setTop (mkF m 56 #[.val (.ref x), .val (.ref y), .val (.int (1 : Int32)), .val (.int (0 : Int32))] []))
      refine own_go (fun _ kk_ => XS.iloadN X11.here hx rfl (hb hby d12_56) rfl kk_) ?_
      show own_G p e below s _ _ _ (T11.setTop (mkF m 57 #[.val (.ref x), .val (.ref y), .val (.int (1 : Int32)), .val (.int (0 : Int32))] [(.int (0 : Int32))]))
      refine own_go (fun _ kk_ => XS.aloadN X11.here hx rfl (hb hby d12_57) rfl rfl kk_) ?_
      show own_G p e below s _ _ _ (T11.setTop (mkF m 58 #[.val (.ref x), .val (.ref y), .val (.int (1 : Int32)), .val (.int (0 : Int32))] [(.ref y), (.int (0 : Int32))]))
      obtain ⟨T12, X12, e12, st12⟩ := getF X11 hx hZ hown (host := "") (Or.inl (hw _ (List.mem_of_getElem? (i := 80) rfl))) Via.refl e11 F_touched' (g := (mkF m 58 #[.val (.ref x), .val (.ref y), .val (.int (1 : Int32)), .val (.int (0 : Int32))] [(.ref y), (.int (0 : Int32))])) rfl rfl (hb hby d12_58)
      refine own_go st12 ?_
      show own_G p e below s _ _ _ (T12.setTop (mkF m 61 #[.val (.ref x), .val (.ref y), .val (.int (1 : Int32)), .val (.int (0 : Int32))] [(.int (0 : Int32)), (.int (0 : Int32))]))
      refine own_ic_geY X12 hx (pc := 61) (pc' := 105) (hb hby d12_61) (by decide) (by decide) (by decide) ?_
      show own_G p e below s _ _ _ (T12.setTop (mkF m 105 #[.val (.ref x), .val (.ref y), .val (.int (1 : Int32)), .val (.int (0 : Int32))] []))
      refine own_go (fun _ kk_ => XS.iinc X12.here hx rfl (hb hby d12_105) rfl (l' := #[.val (.ref x), .val (.ref y), .val (.int (2 : Int32)), .val (.int (0 : Int32))]) rfl kk_) ?_
      show own_G p e below s _ _ _ (T12.setTop (mkF m 108 #[.val (.ref x), .val (.ref y), .val (.int (2 : Int32)), .val (.int (0 : Int32))] []))
      refine own_go (fun _ kk_ => XS.goto X12.here hx rfl (pc0 := 108) (pc' := 46) rfl (hb hby d12_108) (by decide) (by decide) kk_) ?_
      show own_G p e below s _ _ _ (T12.setTop (mkF m 46 #[.val (.ref x), .val (.ref y), .val (.int (2 : Int32)), .val (.int (0 : Int32))] []))
      refine own_go (fun _ kk_ => XS.iloadN X12.here hx rfl (hb hby d12_46) rfl kk_) ?_
      show own_G p e below s _ _ _ (T12.setTop (mkF m 47 #[.val (.ref x), .val (.ref y), .val (.int (2 : Int32)), .val (.int (0 : Int32))] [(.int (2 : Int32))]))
      refine own_go (fun _ kk_ => XS.aloadN X12.here hx rfl (hb hby d12_47) rfl rfl kk_) ?_
      show own_G p e below s _ _ _ (T12.setTop (mkF m 48 #[.val (.ref x), .val (.ref y), .val (.int (2 : Int32)), .val (.int (0 : Int32))] [(.ref x), (.int (2 : Int32))]))
      obtain ⟨T13, X13, e13, st13⟩ := getF X12 hx hZ hown (host := "") (Or.inl (hw _ (List.mem_of_getElem? (i := 80) rfl))) Via.refl e12 F_touched (g := (mkF m 48 #[.val (.ref x), .val (.ref y), .val (.int (2 : Int32)), .val (.int (0 : Int32))] [(.ref x), (.int (2 : Int32))])) rfl rfl (hb hby d12_48)
      refine own_go st13 ?_
      show own_G p e below s _ _ _ (T13.setTop (mkF m 51 #[.val (.ref x), .val (.ref y), .val (.int (2 : Int32)), .val (.int (0 : Int32))] [(.int (2 : Int32)), (.int (2 : Int32))]))
      refine own_ic_geY X13 hx (pc := 51) (pc' := 111) (hb hby d12_51) (by decide) (by decide) (by decide) ?_
      show own_G p e below s _ _ _ (T13.setTop (mkF m 111 #[.val (.ref x), .val (.ref y), .val (.int (2 : Int32)), .val (.int (0 : Int32))] []))
      refine own_go (fun _ kk_ => XS.iconst X13.here hx rfl (hb hby d12_111) kk_) ?_
      show own_G p e below s _ _ _ (T13.setTop (mkF m 112 #[.val (.ref x), .val (.ref y), .val (.int (2 : Int32)), .val (.int (0 : Int32))] [(.int (0 : Int32))]))
      exact own_retN (t := .boolean) (ht := by simp) X13 hx Bd.returns (BodyLoose.notSynchronized Bd) (hb hby d12_112) e13 ⟨_, rfl, N6, rfl, Or.inr ⟨rfl, own_Dno hc4 hc11 hbr hrb (fun q => q.elim (fun q => absurd q.2.1 (by decide)) (fun q => q.elim (fun q => absurd q.2.1 (by decide)) (fun q => q.elim (fun q => absurd q.2.1 (by decide)) (fun q => absurd q.2.1 (by decide)))))⟩⟩ (by decide) (by decide)
theorem ef_rmDp21 (m : MethodId) (x0 : Addr) (x1 : Addr) : entryFrame m #[(.ref x0), (.ref x1)] 4 = mkF m 0 #[.val (.ref x0), .val (.ref x1), .unset, .unset] [] := by first | (simp [entryFrame, mkF, argsToLocals, Value.category]; done) | rfl
def Q_rmDp21 (Z : State) (x ca wa y da va : Addr) (kc kw kd kv : ClassId) (c0 c1 w0 w1 b1 r1 y1 d0 d1 v0 v1 b2 r2 y2 : Int32) (h0 : Heap) (n0 : Nat) : Option Value → Heap → List Loc → Prop := fun v h L => ∃ B : Int32, v = some (.int B) ∧ Fr n0 L ∧ h = h0 ∧ ((B = 1 ∧ (own_D y1 y2 b1 r1 b2 r2 (own_C 2 1 c0 c1 w0 w1 d0 d1 v0 v1))) ∨ (B = 0 ∧ ¬ (own_D y1 y2 b1 r1 b2 r2 (own_C 2 1 c0 c1 w0 w1 d0 d1 v0 v1))))
set_option maxRecDepth 65536 in
set_option maxHeartbeats 40000000 in
theorem rmDp21 (l : Launch) (Z : State) (a0 : Array Value) (hw : ∀ d ∈ tables_1, d.before a0 Z = true) (ws : List Jvm.Cond) (x ca wa y da va : Addr) (kc kw kd kv : ClassId) (c0 c1 w0 w1 b1 r1 y1 d0 d1 v0 v1 b2 r2 y2 : Int32) (h0 : Heap) (n0 : Nat) (Z0 : n0 ≤ h0.size) (FP : own_FP Z h0 x ca wa kc kw 2 c0 c1 w0 w1 b1 r1 y1) (FQ : own_FP Z h0 y da va kd kv 1 d0 d1 v0 v1 b2 r2 y2) :
    MetFree l (⟨"com/example/relyguard/relyguard/Footprint", "dependsOn", "(Lcom/example/relyguard/relyguard/Footprint;)Z"⟩ : MethodName) (head1 (Jvm.Cond.code (⟨"com/example/relyguard/relyguard/Footprint", "dependsOn", "(Lcom/example/relyguard/relyguard/Footprint;)Z"⟩ : MethodName) prog_47_method_13_code 4 (some .boolean) :: ws) ({ frames := 0, cells := 0, slots := 0, locals := 0 } : Room)) (fun as_ U => as_ = #[(.ref x), (.ref y)] ∧ Z.Warmed39 U.vm ∧ U.heap = h0) (fun _ _ _ _ _ => True) (fun _ U o U' => ∃ v L, o = .returned v ∧ (Q_rmDp21 Z x ca wa y da va kc kw kd kv c0 c1 w0 w1 b1 r1 y1 d0 d1 v0 v1 b2 r2 y2 h0 n0) v U'.heap L ∧ FrameEnd U o U' L ({ frames := 0, cells := 0, slots := 0, locals := 0 } : Room).cells ({ frames := 0, cells := 0, slots := 0, locals := 0 } : Room).slots) := by
  refine MetFree.of_bodySF (plainFor_of_name pn_2) hisR ?_
  intro p e s m args below meth c s₁ Bd hml0 hP hK
  obtain ⟨rfl, hZ, hh⟩ := hP
  have hx := Bd.exec
  have hby := Bd.bytes
  have hml : c.maxLocals = 4 := hml0
  have hown : s.vm.findClass "com/example/relyguard/relyguard/Footprint" = some m.cls := findClass_of_methodNamed Bd.named
  have hnm := (name_of_methodNamed Bd.named Bd.method).1
  have X0 : Stand p l e ({ frames := 0, cells := 0, slots := 0, locals := 0 } : Room) s m #[(.ref x), (.ref y)] below meth c s₁ [] 0 0 := Stand.of_body Bd
  have e0 : s₁.heap = h0 := by rw [← hh, Bd.state]; rfl
  have N0 := Fr.nil n0
  show own_G p e below s (Q_rmDp21 Z x ca wa y da va kc kw kd kv c0 c1 w0 w1 b1 r1 y1 d0 d1 v0 v1 b2 r2 y2 h0 n0) ({ frames := 0, cells := 0, slots := 0, locals := 0 } : Room).cells ({ frames := 0, cells := 0, slots := 0, locals := 0 } : Room).slots (s₁.setTop (entryFrame m #[(.ref x), (.ref y)] 4))
  rw [ef_rmDp21 m x y]
  obtain ⟨⟨E_x, F_cells, F_writes, F_touched, F_begins, F_returns, F_endsRun⟩, ⟨V_c, V_w⟩, ne1, ne2, ne3⟩ := FP
  obtain ⟨⟨E_x', F_cells', F_writes', F_touched', F_begins', F_returns', F_endsRun'⟩, ⟨V_c', V_w'⟩, ne1', ne2', ne3'⟩ := FQ
  show own_G p e below s _ _ _ (s₁.setTop (mkF m 0 #[.val (.ref x), .val (.ref y), .unset, .unset] []))
  refine own_go (fun _ kk_ => XS.aloadN X0.here hx rfl (hb hby d12_0) rfl rfl kk_) ?_
  show own_G p e below s _ _ _ (s₁.setTop (mkF m 1 #[.val (.ref x), .val (.ref y), .unset, .unset] [(.ref x)]))
  obtain ⟨T1, X1, e1, st1⟩ := getF X0 hx hZ hown (host := "") (Or.inl (hw _ (List.mem_of_getElem? (i := 74) rfl))) Via.refl e0 F_endsRun (g := (mkF m 1 #[.val (.ref x), .val (.ref y), .unset, .unset] [(.ref x)])) rfl rfl (hb hby d12_1)
  refine own_go st1 ?_
  show own_G p e below s _ _ _ (T1.setTop (mkF m 4 #[.val (.ref x), .val (.ref y), .unset, .unset] [(.int y1)]))
  refine own_if_ne X1 hx (pc := 4) (pc' := 42) (hb hby d12_4) (by decide) (by decide) (fun hc4 => ?_) (fun hc4 => ?_)
  · show own_G p e below s _ _ _ (T1.setTop (mkF m 42 #[.val (.ref x), .val (.ref y), .unset, .unset] []))
    refine own_go (fun _ kk_ => XS.iconst X1.here hx rfl (hb hby d12_42) kk_) ?_
    show own_G p e below s _ _ _ (T1.setTop (mkF m 43 #[.val (.ref x), .val (.ref y), .unset, .unset] [(.int (1 : Int32))]))
    exact own_retN (t := .boolean) (ht := by simp) X1 hx Bd.returns (BodyLoose.notSynchronized Bd) (hb hby d12_43) e1 ⟨_, rfl, N0, rfl, Or.inl ⟨rfl, Or.inl hc4⟩⟩ (by decide) (by decide)
  · show own_G p e below s _ _ _ (T1.setTop (mkF m 7 #[.val (.ref x), .val (.ref y), .unset, .unset] []))
    refine own_go (fun _ kk_ => XS.aloadN X1.here hx rfl (hb hby d12_7) rfl rfl kk_) ?_
    show own_G p e below s _ _ _ (T1.setTop (mkF m 8 #[.val (.ref x), .val (.ref y), .unset, .unset] [(.ref y)]))
    obtain ⟨T2, X2, e2, st2⟩ := getF X1 hx hZ hown (host := "") (Or.inl (hw _ (List.mem_of_getElem? (i := 74) rfl))) Via.refl e1 F_endsRun' (g := (mkF m 8 #[.val (.ref x), .val (.ref y), .unset, .unset] [(.ref y)])) rfl rfl (hb hby d12_8)
    refine own_go st2 ?_
    show own_G p e below s _ _ _ (T2.setTop (mkF m 11 #[.val (.ref x), .val (.ref y), .unset, .unset] [(.int y2)]))
    refine own_if_ne X2 hx (pc := 11) (pc' := 42) (hb hby d12_11) (by decide) (by decide) (fun hc11 => ?_) (fun hc11 => ?_)
    · show own_G p e below s _ _ _ (T2.setTop (mkF m 42 #[.val (.ref x), .val (.ref y), .unset, .unset] []))
      refine own_go (fun _ kk_ => XS.iconst X2.here hx rfl (hb hby d12_42) kk_) ?_
      show own_G p e below s _ _ _ (T2.setTop (mkF m 43 #[.val (.ref x), .val (.ref y), .unset, .unset] [(.int (1 : Int32))]))
      exact own_retN (t := .boolean) (ht := by simp) X2 hx Bd.returns (BodyLoose.notSynchronized Bd) (hb hby d12_43) e2 ⟨_, rfl, N0, rfl, Or.inl ⟨rfl, Or.inr (Or.inl hc11)⟩⟩ (by decide) (by decide)
    · suffices J3 : ∀ (T3 : State) (lo3 : List Loc), Stand p l e ({ frames := 0, cells := 0, slots := 0, locals := 0 } : Room) s m #[(.ref x), (.ref y)] below meth c T3 lo3 0 0 → Fr n0 lo3 → T3.heap = h0 → (¬ (¬ b1 = 0 ∧ ¬ r2 = 0)) → own_G p e below s (Q_rmDp21 Z x ca wa y da va kc kw kd kv c0 c1 w0 w1 b1 r1 y1 d0 d1 v0 v1 b2 r2 y2 h0 n0) ({ frames := 0, cells := 0, slots := 0, locals := 0 } : Room).cells ({ frames := 0, cells := 0, slots := 0, locals := 0 } : Room).slots (T3.setTop (mkF m 28 #[.val (.ref x), .val (.ref y), .unset, .unset] [])) by
        show own_G p e below s _ _ _ (T2.setTop (mkF m 14 #[.val (.ref x), .val (.ref y), .unset, .unset] []))
        refine own_go (fun _ kk_ => XS.aloadN X2.here hx rfl (hb hby d12_14) rfl rfl kk_) ?_
        show own_G p e below s _ _ _ (T2.setTop (mkF m 15 #[.val (.ref x), .val (.ref y), .unset, .unset] [(.ref x)]))
        obtain ⟨T4, X4, e4, st4⟩ := getF X2 hx hZ hown (host := "") (Or.inl (hw _ (List.mem_of_getElem? (i := 76) rfl))) Via.refl e2 F_begins (g := (mkF m 15 #[.val (.ref x), .val (.ref y), .unset, .unset] [(.ref x)])) rfl rfl (hb hby d12_15)
        refine own_go st4 ?_
        show own_G p e below s _ _ _ (T4.setTop (mkF m 18 #[.val (.ref x), .val (.ref y), .unset, .unset] [(.int b1)]))
        refine own_if_eq X4 hx (pc := 18) (pc' := 28) (hb hby d12_18) (by decide) (by decide) (fun hc18 => ?_) (fun hc18 => ?_)
        · exact J3 _ _ (X4.more (by decide) (by decide)) N0 e4 (fun q => q.1 hc18)
        · show own_G p e below s _ _ _ (T4.setTop (mkF m 21 #[.val (.ref x), .val (.ref y), .unset, .unset] []))
          refine own_go (fun _ kk_ => XS.aloadN X4.here hx rfl (hb hby d12_21) rfl rfl kk_) ?_
          show own_G p e below s _ _ _ (T4.setTop (mkF m 22 #[.val (.ref x), .val (.ref y), .unset, .unset] [(.ref y)]))
          obtain ⟨T5, X5, e5, st5⟩ := getF X4 hx hZ hown (host := "") (Or.inl (hw _ (List.mem_of_getElem? (i := 78) rfl))) Via.refl e4 F_returns' (g := (mkF m 22 #[.val (.ref x), .val (.ref y), .unset, .unset] [(.ref y)])) rfl rfl (hb hby d12_22)
          refine own_go st5 ?_
          show own_G p e below s _ _ _ (T5.setTop (mkF m 25 #[.val (.ref x), .val (.ref y), .unset, .unset] [(.int r2)]))
          refine own_if_ne X5 hx (pc := 25) (pc' := 42) (hb hby d12_25) (by decide) (by decide) (fun hc25 => ?_) (fun hc25 => ?_)
          · show own_G p e below s _ _ _ (T5.setTop (mkF m 42 #[.val (.ref x), .val (.ref y), .unset, .unset] []))
            refine own_go (fun _ kk_ => XS.iconst X5.here hx rfl (hb hby d12_42) kk_) ?_
            show own_G p e below s _ _ _ (T5.setTop (mkF m 43 #[.val (.ref x), .val (.ref y), .unset, .unset] [(.int (1 : Int32))]))
            exact own_retN (t := .boolean) (ht := by simp) X5 hx Bd.returns (BodyLoose.notSynchronized Bd) (hb hby d12_43) e5 ⟨_, rfl, N0, rfl, Or.inl ⟨rfl, Or.inr (Or.inr (Or.inl ⟨hc18, hc25⟩))⟩⟩ (by decide) (by decide)
          · exact J3 _ _ (X5.more (by decide) (by decide)) N0 e5 (fun q => q.2 hc25)
      intro T3 lo3 X3 N3 e3 hbr
      show own_G p e below s _ _ _ (T3.setTop (mkF m 28 #[.val (.ref x), .val (.ref y), .unset, .unset] []))
      suffices J6 : ∀ (T6 : State) (lo6 : List Loc), Stand p l e ({ frames := 0, cells := 0, slots := 0, locals := 0 } : Room) s m #[(.ref x), (.ref y)] below meth c T6 lo6 0 0 → Fr n0 lo6 → T6.heap = h0 → (¬ (¬ r1 = 0 ∧ ¬ b2 = 0)) → own_G p e below s (Q_rmDp21 Z x ca wa y da va kc kw kd kv c0 c1 w0 w1 b1 r1 y1 d0 d1 v0 v1 b2 r2 y2 h0 n0) ({ frames := 0, cells := 0, slots := 0, locals := 0 } : Room).cells ({ frames := 0, cells := 0, slots := 0, locals := 0 } : Room).slots (T6.setTop (mkF m 44 #[.val (.ref x), .val (.ref y), .unset, .unset] [])) by
        show own_G p e below s _ _ _ (T3.setTop (mkF m 28 #[.val (.ref x), .val (.ref y), .unset, .unset] []))
        refine own_go (fun _ kk_ => XS.aloadN X3.here hx rfl (hb hby d12_28) rfl rfl kk_) ?_
        show own_G p e below s _ _ _ (T3.setTop (mkF m 29 #[.val (.ref x), .val (.ref y), .unset, .unset] [(.ref x)]))
        obtain ⟨T7, X7, e7, st7⟩ := getF X3 hx hZ hown (host := "") (Or.inl (hw _ (List.mem_of_getElem? (i := 78) rfl))) Via.refl e3 F_returns (g := (mkF m 29 #[.val (.ref x), .val (.ref y), .unset, .unset] [(.ref x)])) rfl rfl (hb hby d12_29)
        refine own_go st7 ?_
        show own_G p e below s _ _ _ (T7.setTop (mkF m 32 #[.val (.ref x), .val (.ref y), .unset, .unset] [(.int r1)]))
        refine own_if_eq X7 hx (pc := 32) (pc' := 44) (hb hby d12_32) (by decide) (by decide) (fun hc32 => ?_) (fun hc32 => ?_)
        · exact J6 _ _ (X7.more (by decide) (by decide)) N3 e7 (fun q => q.1 hc32)
        · show own_G p e below s _ _ _ (T7.setTop (mkF m 35 #[.val (.ref x), .val (.ref y), .unset, .unset] []))
          refine own_go (fun _ kk_ => XS.aloadN X7.here hx rfl (hb hby d12_35) rfl rfl kk_) ?_
          show own_G p e below s _ _ _ (T7.setTop (mkF m 36 #[.val (.ref x), .val (.ref y), .unset, .unset] [(.ref y)]))
          obtain ⟨T8, X8, e8, st8⟩ := getF X7 hx hZ hown (host := "") (Or.inl (hw _ (List.mem_of_getElem? (i := 76) rfl))) Via.refl e7 F_begins' (g := (mkF m 36 #[.val (.ref x), .val (.ref y), .unset, .unset] [(.ref y)])) rfl rfl (hb hby d12_36)
          refine own_go st8 ?_
          show own_G p e below s _ _ _ (T8.setTop (mkF m 39 #[.val (.ref x), .val (.ref y), .unset, .unset] [(.int b2)]))
          refine own_if_eq X8 hx (pc := 39) (pc' := 44) (hb hby d12_39) (by decide) (by decide) (fun hc39 => ?_) (fun hc39 => ?_)
          · exact J6 _ _ (X8.more (by decide) (by decide)) N3 e8 (fun q => q.2 hc39)
          · show own_G p e below s _ _ _ (T8.setTop (mkF m 42 #[.val (.ref x), .val (.ref y), .unset, .unset] []))
            refine own_go (fun _ kk_ => XS.iconst X8.here hx rfl (hb hby d12_42) kk_) ?_
            show own_G p e below s _ _ _ (T8.setTop (mkF m 43 #[.val (.ref x), .val (.ref y), .unset, .unset] [(.int (1 : Int32))]))
            exact own_retN (t := .boolean) (ht := by simp) X8 hx Bd.returns (BodyLoose.notSynchronized Bd) (hb hby d12_43) e8 ⟨_, rfl, N3, rfl, Or.inl ⟨rfl, Or.inr (Or.inr (Or.inr (Or.inl ⟨hc32, hc39⟩)))⟩⟩ (by decide) (by decide)
      intro T6 lo6 X6 N6 e6 hrb
      show own_G p e below s _ _ _ (T6.setTop (mkF m 44 #[.val (.ref x), .val (.ref y), .unset, .unset] []))
      suffices J9 : ∀ (T9 : State) (lo9 : List Loc), Stand p l e ({ frames := 0, cells := 0, slots := 0, locals := 0 } : Room) s m #[(.ref x), (.ref y)] below meth c T9 lo9 0 0 → Fr n0 lo9 → T9.heap = h0 → (¬ own_cf c0 w0 d0 v0) → own_G p e below s (Q_rmDp21 Z x ca wa y da va kc kw kd kv c0 c1 w0 w1 b1 r1 y1 d0 d1 v0 v1 b2 r2 y2 h0 n0) ({ frames := 0, cells := 0, slots := 0, locals := 0 } : Room).cells ({ frames := 0, cells := 0, slots := 0, locals := 0 } : Room).slots (T9.setTop (mkF m 99 #[.val (.ref x), .val (.ref y), .val (.int (0 : Int32)), .val (.int (0 : Int32))] [])) by
        show own_G p e below s _ _ _ (T6.setTop (mkF m 44 #[.val (.ref x), .val (.ref y), .unset, .unset] []))
        refine own_go (fun _ kk_ => XS.iconst X6.here hx rfl (hb hby d12_44) kk_) ?_
        show own_G p e below s _ _ _ (T6.setTop (mkF m 45 #[.val (.ref x), .val (.ref y), .unset, .unset] [(.int (0 : Int32))]))
        refine own_go (fun _ kk_ => XS.istoreN X6.here hx rfl (hb hby d12_45) rfl (l' := #[.val (.ref x), .val (.ref y), .val (.int (0 : Int32)), .unset]) rfl kk_) ?_
        show own_G p e below s _ _ _ (T6.setTop (mkF m 46 #[.val (.ref x), .val (.ref y), .val (.int (0 : Int32)), .unset] []))
        refine own_go (fun _ kk_ => XS.iloadN X6.here hx rfl (hb hby d12_46) rfl kk_) ?_
        show own_G p e below s _ _ _ (T6.setTop (mkF m 47 #[.val (.ref x), .val (.ref y), .val (.int (0 : Int32)), .unset] [(.int (0 : Int32))]))
        refine own_go (fun _ kk_ => XS.aloadN X6.here hx rfl (hb hby d12_47) rfl rfl kk_) ?_
        show own_G p e below s _ _ _ (T6.setTop (mkF m 48 #[.val (.ref x), .val (.ref y), .val (.int (0 : Int32)), .unset] [(.ref x), (.int (0 : Int32))]))
        obtain ⟨T10, X10, e10, st10⟩ := getF X6 hx hZ hown (host := "") (Or.inl (hw _ (List.mem_of_getElem? (i := 80) rfl))) Via.refl e6 F_touched (g := (mkF m 48 #[.val (.ref x), .val (.ref y), .val (.int (0 : Int32)), .unset] [(.ref x), (.int (0 : Int32))])) rfl rfl (hb hby d12_48)
        refine own_go st10 ?_
        show own_G p e below s _ _ _ (T10.setTop (mkF m 51 #[.val (.ref x), .val (.ref y), .val (.int (0 : Int32)), .unset] [(.int (2 : Int32)), (.int (0 : Int32))]))
        refine own_ic_geN X10 hx (pc := 51) (hb hby d12_51) (by decide) ?_
        show own_G p e below s _ _ _ (T10.setTop (mkF m 54 #[.val (.ref x), .val (.ref y), .val (.int (0 : Int32)), .unset] []))
        refine own_go (fun _ kk_ => XS.iconst X10.here hx rfl (hb hby d12_54) kk_) ?_
        show own_G p e below s _ _ _ (T10.setTop (mkF m 55 #[.val (.ref x), .val (.ref y), .val (.int (0 : Int32)), .unset] [(.int (0 : Int32))]))
        refine own_go (fun _ kk_ => XS.istoreN X10.here hx rfl (hb hby d12_55) rfl (l' := #[.val (.ref x), .val (.ref y), .val (.int (0 : Int32)), .val (.int (0 : Int32))]) rfl kk_) ?_
        show own_G p e below s _ _ _ (T10.setTop (mkF m 56 #[.val (.ref x), .val (.ref y), .val (.int (0 : Int32)), .val (.int (0 : Int32))] []))
        refine own_go (fun _ kk_ => XS.iloadN X10.here hx rfl (hb hby d12_56) rfl kk_) ?_
        show own_G p e below s _ _ _ (T10.setTop (mkF m 57 #[.val (.ref x), .val (.ref y), .val (.int (0 : Int32)), .val (.int (0 : Int32))] [(.int (0 : Int32))]))
        refine own_go (fun _ kk_ => XS.aloadN X10.here hx rfl (hb hby d12_57) rfl rfl kk_) ?_
        show own_G p e below s _ _ _ (T10.setTop (mkF m 58 #[.val (.ref x), .val (.ref y), .val (.int (0 : Int32)), .val (.int (0 : Int32))] [(.ref y), (.int (0 : Int32))]))
        obtain ⟨T11, X11, e11, st11⟩ := getF X10 hx hZ hown (host := "") (Or.inl (hw _ (List.mem_of_getElem? (i := 80) rfl))) Via.refl e10 F_touched' (g := (mkF m 58 #[.val (.ref x), .val (.ref y), .val (.int (0 : Int32)), .val (.int (0 : Int32))] [(.ref y), (.int (0 : Int32))])) rfl rfl (hb hby d12_58)
        refine own_go st11 ?_
        show own_G p e below s _ _ _ (T11.setTop (mkF m 61 #[.val (.ref x), .val (.ref y), .val (.int (0 : Int32)), .val (.int (0 : Int32))] [(.int (1 : Int32)), (.int (0 : Int32))]))
        refine own_ic_geN X11 hx (pc := 61) (hb hby d12_61) (by decide) ?_
        show own_G p e below s _ _ _ (T11.setTop (mkF m 64 #[.val (.ref x), .val (.ref y), .val (.int (0 : Int32)), .val (.int (0 : Int32))] []))
        refine own_go (fun _ kk_ => XS.aloadN X11.here hx rfl (hb hby d12_64) rfl rfl kk_) ?_
        show own_G p e below s _ _ _ (T11.setTop (mkF m 65 #[.val (.ref x), .val (.ref y), .val (.int (0 : Int32)), .val (.int (0 : Int32))] [(.ref x)]))
        obtain ⟨T12, X12, e12, st12⟩ := getF X11 hx hZ hown (host := "") (Or.inl (hw _ (List.mem_of_getElem? (i := 41) rfl))) Via.refl e11 F_cells (g := (mkF m 65 #[.val (.ref x), .val (.ref y), .val (.int (0 : Int32)), .val (.int (0 : Int32))] [(.ref x)])) rfl rfl (hb hby d12_65)
        refine own_go st12 ?_
        show own_G p e below s _ _ _ (T12.setTop (mkF m 68 #[.val (.ref x), .val (.ref y), .val (.int (0 : Int32)), .val (.int (0 : Int32))] [(.ref ca)]))
        refine own_go (fun _ kk_ => XS.iloadN X12.here hx rfl (hb hby d12_68) rfl kk_) ?_
        show own_G p e below s _ _ _ (T12.setTop (mkF m 69 #[.val (.ref x), .val (.ref y), .val (.int (0 : Int32)), .val (.int (0 : Int32))] [(.int (0 : Int32)), (.ref ca)]))
        have Vc13 := V_c
        obtain ⟨cl13, Ar13, q13, S13, M13, H13, G13⟩ := Vc13
        have hin13 := inb_of (j := (0 : Int32)) S13 ⟨(by decide), (by decide)⟩
        have hat13 := H13.at hin13 (v := (.int c0)) rfl
        refine own_go (X12.iaload hx (j := (0 : Int32)) (v := (.int c0)) (by rw [e12]; exact Ar13.1) (State.isArrayOf_alike hZ.alike Ar13.2.1) Ar13.2.2 hin13 hat13 (g := (mkF m 69 #[.val (.ref x), .val (.ref y), .val (.int (0 : Int32)), .val (.int (0 : Int32))] [(.int (0 : Int32)), (.ref ca)])) rfl rfl (hb hby d12_69)) ?_
        show own_G p e below s _ _ _ (T12.setTop (mkF m 70 #[.val (.ref x), .val (.ref y), .val (.int (0 : Int32)), .val (.int (0 : Int32))] [(.int c0)]))
        refine own_go (fun _ kk_ => XS.aloadN X12.here hx rfl (hb hby d12_70) rfl rfl kk_) ?_
        show own_G p e below s _ _ _ (T12.setTop (mkF m 71 #[.val (.ref x), .val (.ref y), .val (.int (0 : Int32)), .val (.int (0 : Int32))] [(.ref y), (.int c0)]))
        obtain ⟨T14, X14, e14, st14⟩ := getF X12 hx hZ hown (host := "") (Or.inl (hw _ (List.mem_of_getElem? (i := 41) rfl))) Via.refl e12 F_cells' (g := (mkF m 71 #[.val (.ref x), .val (.ref y), .val (.int (0 : Int32)), .val (.int (0 : Int32))] [(.ref y), (.int c0)])) rfl rfl (hb hby d12_71)
        refine own_go st14 ?_
        show own_G p e below s _ _ _ (T14.setTop (mkF m 74 #[.val (.ref x), .val (.ref y), .val (.int (0 : Int32)), .val (.int (0 : Int32))] [(.ref da), (.int c0)]))
        refine own_go (fun _ kk_ => XS.iloadN X14.here hx rfl (hb hby d12_74) rfl kk_) ?_
        show own_G p e below s _ _ _ (T14.setTop (mkF m 75 #[.val (.ref x), .val (.ref y), .val (.int (0 : Int32)), .val (.int (0 : Int32))] [(.int (0 : Int32)), (.ref da), (.int c0)]))
        have Vc15 := V_c'
        obtain ⟨cl15, Ar15, q15, S15, M15, H15, G15⟩ := Vc15
        have hin15 := inb_of (j := (0 : Int32)) S15 ⟨(by decide), (by decide)⟩
        have hat15 := H15.at hin15 (v := (.int d0)) rfl
        refine own_go (X14.iaload hx (j := (0 : Int32)) (v := (.int d0)) (by rw [e14]; exact Ar15.1) (State.isArrayOf_alike hZ.alike Ar15.2.1) Ar15.2.2 hin15 hat15 (g := (mkF m 75 #[.val (.ref x), .val (.ref y), .val (.int (0 : Int32)), .val (.int (0 : Int32))] [(.int (0 : Int32)), (.ref da), (.int c0)])) rfl rfl (hb hby d12_75)) ?_
        show own_G p e below s _ _ _ (T14.setTop (mkF m 76 #[.val (.ref x), .val (.ref y), .val (.int (0 : Int32)), .val (.int (0 : Int32))] [(.int d0), (.int c0)]))
        refine own_ic_ne X14 hx (pc := 76) (pc' := 99) (hb hby d12_76) (by decide) (by decide) (fun hc76 => ?_) (fun hc76 => ?_)
        · exact J9 _ _ (X14.more (by decide) (by decide)) N6 e14 (fun q => hc76 q.1)
        · show own_G p e below s _ _ _ (T14.setTop (mkF m 79 #[.val (.ref x), .val (.ref y), .val (.int (0 : Int32)), .val (.int (0 : Int32))] []))
          refine own_go (fun _ kk_ => XS.aloadN X14.here hx rfl (hb hby d12_79) rfl rfl kk_) ?_
          show own_G p e below s _ _ _ (T14.setTop (mkF m 80 #[.val (.ref x), .val (.ref y), .val (.int (0 : Int32)), .val (.int (0 : Int32))] [(.ref x)]))
          obtain ⟨T16, X16, e16, st16⟩ := getF X14 hx hZ hown (host := "") (Or.inl (hw _ (List.mem_of_getElem? (i := 44) rfl))) Via.refl e14 F_writes (g := (mkF m 80 #[.val (.ref x), .val (.ref y), .val (.int (0 : Int32)), .val (.int (0 : Int32))] [(.ref x)])) rfl rfl (hb hby d12_80)
          refine own_go st16 ?_
          show own_G p e below s _ _ _ (T16.setTop (mkF m 83 #[.val (.ref x), .val (.ref y), .val (.int (0 : Int32)), .val (.int (0 : Int32))] [(.ref wa)]))
          refine own_go (fun _ kk_ => XS.iloadN X16.here hx rfl (hb hby d12_83) rfl kk_) ?_
          show own_G p e below s _ _ _ (T16.setTop (mkF m 84 #[.val (.ref x), .val (.ref y), .val (.int (0 : Int32)), .val (.int (0 : Int32))] [(.int (0 : Int32)), (.ref wa)]))
          have Vc17 := V_w
          obtain ⟨cl17, Ar17, q17, S17, M17, H17, G17⟩ := Vc17
          have hin17 := inb_of (j := (0 : Int32)) S17 ⟨(by decide), (by decide)⟩
          have hat17 := H17.at hin17 (v := (.int w0)) rfl
          refine own_go (X16.baloadBooleans hx (j := (0 : Int32)) (v := (.int w0)) (by rw [e16]; exact Ar17.1) (State.isArrayOf_alike hZ.alike Ar17.2.1) Ar17.2.2 hin17 hat17 (g := (mkF m 84 #[.val (.ref x), .val (.ref y), .val (.int (0 : Int32)), .val (.int (0 : Int32))] [(.int (0 : Int32)), (.ref wa)])) rfl rfl (hb hby d12_84)) ?_
          show own_G p e below s _ _ _ (T16.setTop (mkF m 85 #[.val (.ref x), .val (.ref y), .val (.int (0 : Int32)), .val (.int (0 : Int32))] [(.int w0)]))
          refine own_if_ne X16 hx (pc := 85) (pc' := 97) (hb hby d12_85) (by decide) (by decide) (fun hc85 => ?_) (fun hc85 => ?_)
          · show own_G p e below s _ _ _ (T16.setTop (mkF m 97 #[.val (.ref x), .val (.ref y), .val (.int (0 : Int32)), .val (.int (0 : Int32))] []))
            refine own_go (fun _ kk_ => XS.iconst X16.here hx rfl (hb hby d12_97) kk_) ?_
            show own_G p e below s _ _ _ (T16.setTop (mkF m 98 #[.val (.ref x), .val (.ref y), .val (.int (0 : Int32)), .val (.int (0 : Int32))] [(.int (1 : Int32))]))
            exact own_retN (t := .boolean) (ht := by simp) X16 hx Bd.returns (BodyLoose.notSynchronized Bd) (hb hby d12_98) e16 ⟨_, rfl, N6, rfl, Or.inl ⟨rfl, Or.inr (Or.inr (Or.inr (Or.inr (Or.inl ⟨by decide, by decide, ⟨hc76, Or.inl hc85⟩⟩))))⟩⟩ (by decide) (by decide)
          · show own_G p e below s _ _ _ (T16.setTop (mkF m 88 #[.val (.ref x), .val (.ref y), .val (.int (0 : Int32)), .val (.int (0 : Int32))] []))
            refine own_go (fun _ kk_ => XS.aloadN X16.here hx rfl (hb hby d12_88) rfl rfl kk_) ?_
            show own_G p e below s _ _ _ (T16.setTop (mkF m 89 #[.val (.ref x), .val (.ref y), .val (.int (0 : Int32)), .val (.int (0 : Int32))] [(.ref y)]))
            obtain ⟨T18, X18, e18, st18⟩ := getF X16 hx hZ hown (host := "") (Or.inl (hw _ (List.mem_of_getElem? (i := 44) rfl))) Via.refl e16 F_writes' (g := (mkF m 89 #[.val (.ref x), .val (.ref y), .val (.int (0 : Int32)), .val (.int (0 : Int32))] [(.ref y)])) rfl rfl (hb hby d12_89)
            refine own_go st18 ?_
            show own_G p e below s _ _ _ (T18.setTop (mkF m 92 #[.val (.ref x), .val (.ref y), .val (.int (0 : Int32)), .val (.int (0 : Int32))] [(.ref va)]))
            refine own_go (fun _ kk_ => XS.iloadN X18.here hx rfl (hb hby d12_92) rfl kk_) ?_
            show own_G p e below s _ _ _ (T18.setTop (mkF m 93 #[.val (.ref x), .val (.ref y), .val (.int (0 : Int32)), .val (.int (0 : Int32))] [(.int (0 : Int32)), (.ref va)]))
            have Vc19 := V_w'
            obtain ⟨cl19, Ar19, q19, S19, M19, H19, G19⟩ := Vc19
            have hin19 := inb_of (j := (0 : Int32)) S19 ⟨(by decide), (by decide)⟩
            have hat19 := H19.at hin19 (v := (.int v0)) rfl
            refine own_go (X18.baloadBooleans hx (j := (0 : Int32)) (v := (.int v0)) (by rw [e18]; exact Ar19.1) (State.isArrayOf_alike hZ.alike Ar19.2.1) Ar19.2.2 hin19 hat19 (g := (mkF m 93 #[.val (.ref x), .val (.ref y), .val (.int (0 : Int32)), .val (.int (0 : Int32))] [(.int (0 : Int32)), (.ref va)])) rfl rfl (hb hby d12_93)) ?_
            show own_G p e below s _ _ _ (T18.setTop (mkF m 94 #[.val (.ref x), .val (.ref y), .val (.int (0 : Int32)), .val (.int (0 : Int32))] [(.int v0)]))
            refine own_if_eq X18 hx (pc := 94) (pc' := 99) (hb hby d12_94) (by decide) (by decide) (fun hc94 => ?_) (fun hc94 => ?_)
            · exact J9 _ _ (X18.more (by decide) (by decide)) N6 e18 (fun q => q.2.elim (fun z => z hc85) (fun z => z hc94))
            · show own_G p e below s _ _ _ (T18.setTop (mkF m 97 #[.val (.ref x), .val (.ref y), .val (.int (0 : Int32)), .val (.int (0 : Int32))] []))
              refine own_go (fun _ kk_ => XS.iconst X18.here hx rfl (hb hby d12_97) kk_) ?_
              show own_G p e below s _ _ _ (T18.setTop (mkF m 98 #[.val (.ref x), .val (.ref y), .val (.int (0 : Int32)), .val (.int (0 : Int32))] [(.int (1 : Int32))]))
              exact own_retN (t := .boolean) (ht := by simp) X18 hx Bd.returns (BodyLoose.notSynchronized Bd) (hb hby d12_98) e18 ⟨_, rfl, N6, rfl, Or.inl ⟨rfl, Or.inr (Or.inr (Or.inr (Or.inr (Or.inl ⟨by decide, by decide, ⟨hc76, Or.inr hc94⟩⟩))))⟩⟩ (by decide) (by decide)
      intro T9 lo9 X9 N9 e9 hn00
      show own_G p e below s _ _ _ (T9.setTop (mkF m 99 #[.val (.ref x), .val (.ref y), .val (.int (0 : Int32)), .val (.int (0 : Int32))] []))
      suffices J20 : ∀ (T20 : State) (lo20 : List Loc), Stand p l e ({ frames := 0, cells := 0, slots := 0, locals := 0 } : Room) s m #[(.ref x), (.ref y)] below meth c T20 lo20 0 0 → Fr n0 lo20 → T20.heap = h0 → (¬ own_cf c1 w1 d0 v0) → own_G p e below s (Q_rmDp21 Z x ca wa y da va kc kw kd kv c0 c1 w0 w1 b1 r1 y1 d0 d1 v0 v1 b2 r2 y2 h0 n0) ({ frames := 0, cells := 0, slots := 0, locals := 0 } : Room).cells ({ frames := 0, cells := 0, slots := 0, locals := 0 } : Room).slots (T20.setTop (mkF m 99 #[.val (.ref x), .val (.ref y), .val (.int (1 : Int32)), .val (.int (0 : Int32))] [])) by
        show own_G p e below s _ _ _ (T9.setTop (mkF m 99 #[.val (.ref x), .val (.ref y), .val (.int (0 : Int32)), .val (.int (0 : Int32))] []))
        refine own_go (fun _ kk_ => XS.iinc X9.here hx rfl (hb hby d12_99) rfl (l' := #[.val (.ref x), .val (.ref y), .val (.int (0 : Int32)), .val (.int (1 : Int32))]) rfl kk_) ?_
        show own_G p e below s _ _ _ (T9.setTop (mkF m 102 #[.val (.ref x), .val (.ref y), .val (.int (0 : Int32)), .val (.int (1 : Int32))] []))
        refine own_go (fun _ kk_ => XS.goto X9.here hx rfl (pc0 := 102) (pc' := 56) rfl (hb hby d12_102) (by decide) (by decide) kk_) ?_
        show own_G p e below s _ _ _ (T9.setTop (mkF m 56 #[.val (.ref x), .val (.ref y), .val (.int (0 : Int32)), .val (.int (1 : Int32))] []))
        refine own_go (fun _ kk_ => XS.iloadN X9.here hx rfl (hb hby d12_56) rfl kk_) ?_
        show own_G p e below s _ _ _ (T9.setTop (mkF m 57 #[.val (.ref x), .val (.ref y), .val (.int (0 : Int32)), .val (.int (1 : Int32))] [(.int (1 : Int32))]))
        refine own_go (fun _ kk_ => XS.aloadN X9.here hx rfl (hb hby d12_57) rfl rfl kk_) ?_
        show own_G p e below s _ _ _ (T9.setTop (mkF m 58 #[.val (.ref x), .val (.ref y), .val (.int (0 : Int32)), .val (.int (1 : Int32))] [(.ref y), (.int (1 : Int32))]))
        obtain ⟨T21, X21, e21, st21⟩ := getF X9 hx hZ hown (host := "") (Or.inl (hw _ (List.mem_of_getElem? (i := 80) rfl))) Via.refl e9 F_touched' (g := (mkF m 58 #[.val (.ref x), .val (.ref y), .val (.int (0 : Int32)), .val (.int (1 : Int32))] [(.ref y), (.int (1 : Int32))])) rfl rfl (hb hby d12_58)
        refine own_go st21 ?_
        show own_G p e below s _ _ _ (T21.setTop (mkF m 61 #[.val (.ref x), .val (.ref y), .val (.int (0 : Int32)), .val (.int (1 : Int32))] [(.int (1 : Int32)), (.int (1 : Int32))]))
        refine own_ic_geY X21 hx (pc := 61) (pc' := 105) (hb hby d12_61) (by decide) (by decide) (by decide) ?_
        show own_G p e below s _ _ _ (T21.setTop (mkF m 105 #[.val (.ref x), .val (.ref y), .val (.int (0 : Int32)), .val (.int (1 : Int32))] []))
        refine own_go (fun _ kk_ => XS.iinc X21.here hx rfl (hb hby d12_105) rfl (l' := #[.val (.ref x), .val (.ref y), .val (.int (1 : Int32)), .val (.int (1 : Int32))]) rfl kk_) ?_
        show own_G p e below s _ _ _ (T21.setTop (mkF m 108 #[.val (.ref x), .val (.ref y), .val (.int (1 : Int32)), .val (.int (1 : Int32))] []))
        refine own_go (fun _ kk_ => XS.goto X21.here hx rfl (pc0 := 108) (pc' := 46) rfl (hb hby d12_108) (by decide) (by decide) kk_) ?_
        show own_G p e below s _ _ _ (T21.setTop (mkF m 46 #[.val (.ref x), .val (.ref y), .val (.int (1 : Int32)), .val (.int (1 : Int32))] []))
        refine own_go (fun _ kk_ => XS.iloadN X21.here hx rfl (hb hby d12_46) rfl kk_) ?_
        show own_G p e below s _ _ _ (T21.setTop (mkF m 47 #[.val (.ref x), .val (.ref y), .val (.int (1 : Int32)), .val (.int (1 : Int32))] [(.int (1 : Int32))]))
        refine own_go (fun _ kk_ => XS.aloadN X21.here hx rfl (hb hby d12_47) rfl rfl kk_) ?_
        show own_G p e below s _ _ _ (T21.setTop (mkF m 48 #[.val (.ref x), .val (.ref y), .val (.int (1 : Int32)), .val (.int (1 : Int32))] [(.ref x), (.int (1 : Int32))]))
        obtain ⟨T22, X22, e22, st22⟩ := getF X21 hx hZ hown (host := "") (Or.inl (hw _ (List.mem_of_getElem? (i := 80) rfl))) Via.refl e21 F_touched (g := (mkF m 48 #[.val (.ref x), .val (.ref y), .val (.int (1 : Int32)), .val (.int (1 : Int32))] [(.ref x), (.int (1 : Int32))])) rfl rfl (hb hby d12_48)
        refine own_go st22 ?_
        show own_G p e below s _ _ _ (T22.setTop (mkF m 51 #[.val (.ref x), .val (.ref y), .val (.int (1 : Int32)), .val (.int (1 : Int32))] [(.int (2 : Int32)), (.int (1 : Int32))]))
        refine own_ic_geN X22 hx (pc := 51) (hb hby d12_51) (by decide) ?_
        show own_G p e below s _ _ _ (T22.setTop (mkF m 54 #[.val (.ref x), .val (.ref y), .val (.int (1 : Int32)), .val (.int (1 : Int32))] []))
        refine own_go (fun _ kk_ => XS.iconst X22.here hx rfl (hb hby d12_54) kk_) ?_
        show own_G p e below s _ _ _ (T22.setTop (mkF m 55 #[.val (.ref x), .val (.ref y), .val (.int (1 : Int32)), .val (.int (1 : Int32))] [(.int (0 : Int32))]))
        refine own_go (fun _ kk_ => XS.istoreN X22.here hx rfl (hb hby d12_55) rfl (l' := #[.val (.ref x), .val (.ref y), .val (.int (1 : Int32)), .val (.int (0 : Int32))]) rfl kk_) ?_
        show own_G p e below s _ _ _ (T22.setTop (mkF m 56 #[.val (.ref x), .val (.ref y), .val (.int (1 : Int32)), .val (.int (0 : Int32))] []))
        refine own_go (fun _ kk_ => XS.iloadN X22.here hx rfl (hb hby d12_56) rfl kk_) ?_
        show own_G p e below s _ _ _ (T22.setTop (mkF m 57 #[.val (.ref x), .val (.ref y), .val (.int (1 : Int32)), .val (.int (0 : Int32))] [(.int (0 : Int32))]))
        refine own_go (fun _ kk_ => XS.aloadN X22.here hx rfl (hb hby d12_57) rfl rfl kk_) ?_
        show own_G p e below s _ _ _ (T22.setTop (mkF m 58 #[.val (.ref x), .val (.ref y), .val (.int (1 : Int32)), .val (.int (0 : Int32))] [(.ref y), (.int (0 : Int32))]))
        obtain ⟨T23, X23, e23, st23⟩ := getF X22 hx hZ hown (host := "") (Or.inl (hw _ (List.mem_of_getElem? (i := 80) rfl))) Via.refl e22 F_touched' (g := (mkF m 58 #[.val (.ref x), .val (.ref y), .val (.int (1 : Int32)), .val (.int (0 : Int32))] [(.ref y), (.int (0 : Int32))])) rfl rfl (hb hby d12_58)
        refine own_go st23 ?_
        show own_G p e below s _ _ _ (T23.setTop (mkF m 61 #[.val (.ref x), .val (.ref y), .val (.int (1 : Int32)), .val (.int (0 : Int32))] [(.int (1 : Int32)), (.int (0 : Int32))]))
        refine own_ic_geN X23 hx (pc := 61) (hb hby d12_61) (by decide) ?_
        show own_G p e below s _ _ _ (T23.setTop (mkF m 64 #[.val (.ref x), .val (.ref y), .val (.int (1 : Int32)), .val (.int (0 : Int32))] []))
        refine own_go (fun _ kk_ => XS.aloadN X23.here hx rfl (hb hby d12_64) rfl rfl kk_) ?_
        show own_G p e below s _ _ _ (T23.setTop (mkF m 65 #[.val (.ref x), .val (.ref y), .val (.int (1 : Int32)), .val (.int (0 : Int32))] [(.ref x)]))
        obtain ⟨T24, X24, e24, st24⟩ := getF X23 hx hZ hown (host := "") (Or.inl (hw _ (List.mem_of_getElem? (i := 41) rfl))) Via.refl e23 F_cells (g := (mkF m 65 #[.val (.ref x), .val (.ref y), .val (.int (1 : Int32)), .val (.int (0 : Int32))] [(.ref x)])) rfl rfl (hb hby d12_65)
        refine own_go st24 ?_
        show own_G p e below s _ _ _ (T24.setTop (mkF m 68 #[.val (.ref x), .val (.ref y), .val (.int (1 : Int32)), .val (.int (0 : Int32))] [(.ref ca)]))
        refine own_go (fun _ kk_ => XS.iloadN X24.here hx rfl (hb hby d12_68) rfl kk_) ?_
        show own_G p e below s _ _ _ (T24.setTop (mkF m 69 #[.val (.ref x), .val (.ref y), .val (.int (1 : Int32)), .val (.int (0 : Int32))] [(.int (1 : Int32)), (.ref ca)]))
        have Vc25 := V_c
        obtain ⟨cl25, Ar25, q25, S25, M25, H25, G25⟩ := Vc25
        have hin25 := inb_of (j := (1 : Int32)) S25 ⟨(by decide), (by decide)⟩
        have hat25 := H25.at hin25 (v := (.int c1)) rfl
        refine own_go (X24.iaload hx (j := (1 : Int32)) (v := (.int c1)) (by rw [e24]; exact Ar25.1) (State.isArrayOf_alike hZ.alike Ar25.2.1) Ar25.2.2 hin25 hat25 (g := (mkF m 69 #[.val (.ref x), .val (.ref y), .val (.int (1 : Int32)), .val (.int (0 : Int32))] [(.int (1 : Int32)), (.ref ca)])) rfl rfl (hb hby d12_69)) ?_
        show own_G p e below s _ _ _ (T24.setTop (mkF m 70 #[.val (.ref x), .val (.ref y), .val (.int (1 : Int32)), .val (.int (0 : Int32))] [(.int c1)]))
        refine own_go (fun _ kk_ => XS.aloadN X24.here hx rfl (hb hby d12_70) rfl rfl kk_) ?_
        show own_G p e below s _ _ _ (T24.setTop (mkF m 71 #[.val (.ref x), .val (.ref y), .val (.int (1 : Int32)), .val (.int (0 : Int32))] [(.ref y), (.int c1)]))
        obtain ⟨T26, X26, e26, st26⟩ := getF X24 hx hZ hown (host := "") (Or.inl (hw _ (List.mem_of_getElem? (i := 41) rfl))) Via.refl e24 F_cells' (g := (mkF m 71 #[.val (.ref x), .val (.ref y), .val (.int (1 : Int32)), .val (.int (0 : Int32))] [(.ref y), (.int c1)])) rfl rfl (hb hby d12_71)
        refine own_go st26 ?_
        show own_G p e below s _ _ _ (T26.setTop (mkF m 74 #[.val (.ref x), .val (.ref y), .val (.int (1 : Int32)), .val (.int (0 : Int32))] [(.ref da), (.int c1)]))
        refine own_go (fun _ kk_ => XS.iloadN X26.here hx rfl (hb hby d12_74) rfl kk_) ?_
        show own_G p e below s _ _ _ (T26.setTop (mkF m 75 #[.val (.ref x), .val (.ref y), .val (.int (1 : Int32)), .val (.int (0 : Int32))] [(.int (0 : Int32)), (.ref da), (.int c1)]))
        have Vc27 := V_c'
        obtain ⟨cl27, Ar27, q27, S27, M27, H27, G27⟩ := Vc27
        have hin27 := inb_of (j := (0 : Int32)) S27 ⟨(by decide), (by decide)⟩
        have hat27 := H27.at hin27 (v := (.int d0)) rfl
        refine own_go (X26.iaload hx (j := (0 : Int32)) (v := (.int d0)) (by rw [e26]; exact Ar27.1) (State.isArrayOf_alike hZ.alike Ar27.2.1) Ar27.2.2 hin27 hat27 (g := (mkF m 75 #[.val (.ref x), .val (.ref y), .val (.int (1 : Int32)), .val (.int (0 : Int32))] [(.int (0 : Int32)), (.ref da), (.int c1)])) rfl rfl (hb hby d12_75)) ?_
        show own_G p e below s _ _ _ (T26.setTop (mkF m 76 #[.val (.ref x), .val (.ref y), .val (.int (1 : Int32)), .val (.int (0 : Int32))] [(.int d0), (.int c1)]))
        refine own_ic_ne X26 hx (pc := 76) (pc' := 99) (hb hby d12_76) (by decide) (by decide) (fun hc76 => ?_) (fun hc76 => ?_)
        · exact J20 _ _ (X26.more (by decide) (by decide)) N9 e26 (fun q => hc76 q.1)
        · show own_G p e below s _ _ _ (T26.setTop (mkF m 79 #[.val (.ref x), .val (.ref y), .val (.int (1 : Int32)), .val (.int (0 : Int32))] []))
          refine own_go (fun _ kk_ => XS.aloadN X26.here hx rfl (hb hby d12_79) rfl rfl kk_) ?_
          show own_G p e below s _ _ _ (T26.setTop (mkF m 80 #[.val (.ref x), .val (.ref y), .val (.int (1 : Int32)), .val (.int (0 : Int32))] [(.ref x)]))
          obtain ⟨T28, X28, e28, st28⟩ := getF X26 hx hZ hown (host := "") (Or.inl (hw _ (List.mem_of_getElem? (i := 44) rfl))) Via.refl e26 F_writes (g := (mkF m 80 #[.val (.ref x), .val (.ref y), .val (.int (1 : Int32)), .val (.int (0 : Int32))] [(.ref x)])) rfl rfl (hb hby d12_80)
          refine own_go st28 ?_
          show own_G p e below s _ _ _ (T28.setTop (mkF m 83 #[.val (.ref x), .val (.ref y), .val (.int (1 : Int32)), .val (.int (0 : Int32))] [(.ref wa)]))
          refine own_go (fun _ kk_ => XS.iloadN X28.here hx rfl (hb hby d12_83) rfl kk_) ?_
          show own_G p e below s _ _ _ (T28.setTop (mkF m 84 #[.val (.ref x), .val (.ref y), .val (.int (1 : Int32)), .val (.int (0 : Int32))] [(.int (1 : Int32)), (.ref wa)]))
          have Vc29 := V_w
          obtain ⟨cl29, Ar29, q29, S29, M29, H29, G29⟩ := Vc29
          have hin29 := inb_of (j := (1 : Int32)) S29 ⟨(by decide), (by decide)⟩
          have hat29 := H29.at hin29 (v := (.int w1)) rfl
          refine own_go (X28.baloadBooleans hx (j := (1 : Int32)) (v := (.int w1)) (by rw [e28]; exact Ar29.1) (State.isArrayOf_alike hZ.alike Ar29.2.1) Ar29.2.2 hin29 hat29 (g := (mkF m 84 #[.val (.ref x), .val (.ref y), .val (.int (1 : Int32)), .val (.int (0 : Int32))] [(.int (1 : Int32)), (.ref wa)])) rfl rfl (hb hby d12_84)) ?_
          show own_G p e below s _ _ _ (T28.setTop (mkF m 85 #[.val (.ref x), .val (.ref y), .val (.int (1 : Int32)), .val (.int (0 : Int32))] [(.int w1)]))
          refine own_if_ne X28 hx (pc := 85) (pc' := 97) (hb hby d12_85) (by decide) (by decide) (fun hc85 => ?_) (fun hc85 => ?_)
          · show own_G p e below s _ _ _ (T28.setTop (mkF m 97 #[.val (.ref x), .val (.ref y), .val (.int (1 : Int32)), .val (.int (0 : Int32))] []))
            refine own_go (fun _ kk_ => XS.iconst X28.here hx rfl (hb hby d12_97) kk_) ?_
            show own_G p e below s _ _ _ (T28.setTop (mkF m 98 #[.val (.ref x), .val (.ref y), .val (.int (1 : Int32)), .val (.int (0 : Int32))] [(.int (1 : Int32))]))
            exact own_retN (t := .boolean) (ht := by simp) X28 hx Bd.returns (BodyLoose.notSynchronized Bd) (hb hby d12_98) e28 ⟨_, rfl, N9, rfl, Or.inl ⟨rfl, Or.inr (Or.inr (Or.inr (Or.inr (Or.inr (Or.inr (Or.inl ⟨by decide, by decide, ⟨hc76, Or.inl hc85⟩⟩))))))⟩⟩ (by decide) (by decide)
          · show own_G p e below s _ _ _ (T28.setTop (mkF m 88 #[.val (.ref x), .val (.ref y), .val (.int (1 : Int32)), .val (.int (0 : Int32))] []))
            refine own_go (fun _ kk_ => XS.aloadN X28.here hx rfl (hb hby d12_88) rfl rfl kk_) ?_
            show own_G p e below s _ _ _ (T28.setTop (mkF m 89 #[.val (.ref x), .val (.ref y), .val (.int (1 : Int32)), .val (.int (0 : Int32))] [(.ref y)]))
            obtain ⟨T30, X30, e30, st30⟩ := getF X28 hx hZ hown (host := "") (Or.inl (hw _ (List.mem_of_getElem? (i := 44) rfl))) Via.refl e28 F_writes' (g := (mkF m 89 #[.val (.ref x), .val (.ref y), .val (.int (1 : Int32)), .val (.int (0 : Int32))] [(.ref y)])) rfl rfl (hb hby d12_89)
            refine own_go st30 ?_
            show own_G p e below s _ _ _ (T30.setTop (mkF m 92 #[.val (.ref x), .val (.ref y), .val (.int (1 : Int32)), .val (.int (0 : Int32))] [(.ref va)]))
            refine own_go (fun _ kk_ => XS.iloadN X30.here hx rfl (hb hby d12_92) rfl kk_) ?_
            show own_G p e below s _ _ _ (T30.setTop (mkF m 93 #[.val (.ref x), .val (.ref y), .val (.int (1 : Int32)), .val (.int (0 : Int32))] [(.int (0 : Int32)), (.ref va)]))
            have Vc31 := V_w'
            obtain ⟨cl31, Ar31, q31, S31, M31, H31, G31⟩ := Vc31
            have hin31 := inb_of (j := (0 : Int32)) S31 ⟨(by decide), (by decide)⟩
            have hat31 := H31.at hin31 (v := (.int v0)) rfl
            refine own_go (X30.baloadBooleans hx (j := (0 : Int32)) (v := (.int v0)) (by rw [e30]; exact Ar31.1) (State.isArrayOf_alike hZ.alike Ar31.2.1) Ar31.2.2 hin31 hat31 (g := (mkF m 93 #[.val (.ref x), .val (.ref y), .val (.int (1 : Int32)), .val (.int (0 : Int32))] [(.int (0 : Int32)), (.ref va)])) rfl rfl (hb hby d12_93)) ?_
            show own_G p e below s _ _ _ (T30.setTop (mkF m 94 #[.val (.ref x), .val (.ref y), .val (.int (1 : Int32)), .val (.int (0 : Int32))] [(.int v0)]))
            refine own_if_eq X30 hx (pc := 94) (pc' := 99) (hb hby d12_94) (by decide) (by decide) (fun hc94 => ?_) (fun hc94 => ?_)
            · exact J20 _ _ (X30.more (by decide) (by decide)) N9 e30 (fun q => q.2.elim (fun z => z hc85) (fun z => z hc94))
            · show own_G p e below s _ _ _ (T30.setTop (mkF m 97 #[.val (.ref x), .val (.ref y), .val (.int (1 : Int32)), .val (.int (0 : Int32))] []))
              refine own_go (fun _ kk_ => XS.iconst X30.here hx rfl (hb hby d12_97) kk_) ?_
              show own_G p e below s _ _ _ (T30.setTop (mkF m 98 #[.val (.ref x), .val (.ref y), .val (.int (1 : Int32)), .val (.int (0 : Int32))] [(.int (1 : Int32))]))
              exact own_retN (t := .boolean) (ht := by simp) X30 hx Bd.returns (BodyLoose.notSynchronized Bd) (hb hby d12_98) e30 ⟨_, rfl, N9, rfl, Or.inl ⟨rfl, Or.inr (Or.inr (Or.inr (Or.inr (Or.inr (Or.inr (Or.inl ⟨by decide, by decide, ⟨hc76, Or.inr hc94⟩⟩))))))⟩⟩ (by decide) (by decide)
      intro T20 lo20 X20 N20 e20 hn10
      show own_G p e below s _ _ _ (T20.setTop (mkF m 99 #[.val (.ref x), .val (.ref y), .val (.int (1 : Int32)), .val (.int (0 : Int32))] []))
      show own_G p e below s _ _ _ (T20.setTop (mkF m 99 #[.val (.ref x), .val (.ref y), .val (.int (1 : Int32)), .val (.int (0 : Int32))] []))
      refine own_go (fun _ kk_ => XS.iinc X20.here hx rfl (hb hby d12_99) rfl (l' := #[.val (.ref x), .val (.ref y), .val (.int (1 : Int32)), .val (.int (1 : Int32))]) rfl kk_) ?_
      show own_G p e below s _ _ _ (T20.setTop (mkF m 102 #[.val (.ref x), .val (.ref y), .val (.int (1 : Int32)), .val (.int (1 : Int32))] []))
      refine own_go (fun _ kk_ => XS.goto X20.here hx rfl (pc0 := 102) (pc' := 56) rfl (hb hby d12_102) (by decide) (by decide) kk_) ?_
      show own_G p e below s _ _ _ (T20.setTop (mkF m 56 #[.val (.ref x), .val (.ref y), .val (.int (1 : Int32)), .val (.int (1 : Int32))] []))
      refine own_go (fun _ kk_ => XS.iloadN X20.here hx rfl (hb hby d12_56) rfl kk_) ?_
      show own_G p e below s _ _ _ (T20.setTop (mkF m 57 #[.val (.ref x), .val (.ref y), .val (.int (1 : Int32)), .val (.int (1 : Int32))] [(.int (1 : Int32))]))
      refine own_go (fun _ kk_ => XS.aloadN X20.here hx rfl (hb hby d12_57) rfl rfl kk_) ?_
      show own_G p e below s _ _ _ (T20.setTop (mkF m 58 #[.val (.ref x), .val (.ref y), .val (.int (1 : Int32)), .val (.int (1 : Int32))] [(.ref y), (.int (1 : Int32))]))
      obtain ⟨T32, X32, e32, st32⟩ := getF X20 hx hZ hown (host := "") (Or.inl (hw _ (List.mem_of_getElem? (i := 80) rfl))) Via.refl e20 F_touched' (g := (mkF m 58 #[.val (.ref x), .val (.ref y), .val (.int (1 : Int32)), .val (.int (1 : Int32))] [(.ref y), (.int (1 : Int32))])) rfl rfl (hb hby d12_58)
      refine own_go st32 ?_
      show own_G p e below s _ _ _ (T32.setTop (mkF m 61 #[.val (.ref x), .val (.ref y), .val (.int (1 : Int32)), .val (.int (1 : Int32))] [(.int (1 : Int32)), (.int (1 : Int32))]))
      refine own_ic_geY X32 hx (pc := 61) (pc' := 105) (hb hby d12_61) (by decide) (by decide) (by decide) ?_
      show own_G p e below s _ _ _ (T32.setTop (mkF m 105 #[.val (.ref x), .val (.ref y), .val (.int (1 : Int32)), .val (.int (1 : Int32))] []))
      refine own_go (fun _ kk_ => XS.iinc X32.here hx rfl (hb hby d12_105) rfl (l' := #[.val (.ref x), .val (.ref y), .val (.int (2 : Int32)), .val (.int (1 : Int32))]) rfl kk_) ?_
      show own_G p e below s _ _ _ (T32.setTop (mkF m 108 #[.val (.ref x), .val (.ref y), .val (.int (2 : Int32)), .val (.int (1 : Int32))] []))
      refine own_go (fun _ kk_ => XS.goto X32.here hx rfl (pc0 := 108) (pc' := 46) rfl (hb hby d12_108) (by decide) (by decide) kk_) ?_
      show own_G p e below s _ _ _ (T32.setTop (mkF m 46 #[.val (.ref x), .val (.ref y), .val (.int (2 : Int32)), .val (.int (1 : Int32))] []))
      refine own_go (fun _ kk_ => XS.iloadN X32.here hx rfl (hb hby d12_46) rfl kk_) ?_
      show own_G p e below s _ _ _ (T32.setTop (mkF m 47 #[.val (.ref x), .val (.ref y), .val (.int (2 : Int32)), .val (.int (1 : Int32))] [(.int (2 : Int32))]))
      refine own_go (fun _ kk_ => XS.aloadN X32.here hx rfl (hb hby d12_47) rfl rfl kk_) ?_
      show own_G p e below s _ _ _ (T32.setTop (mkF m 48 #[.val (.ref x), .val (.ref y), .val (.int (2 : Int32)), .val (.int (1 : Int32))] [(.ref x), (.int (2 : Int32))]))
      obtain ⟨T33, X33, e33, st33⟩ := getF X32 hx hZ hown (host := "") (Or.inl (hw _ (List.mem_of_getElem? (i := 80) rfl))) Via.refl e32 F_touched (g := (mkF m 48 #[.val (.ref x), .val (.ref y), .val (.int (2 : Int32)), .val (.int (1 : Int32))] [(.ref x), (.int (2 : Int32))])) rfl rfl (hb hby d12_48)
      refine own_go st33 ?_
      show own_G p e below s _ _ _ (T33.setTop (mkF m 51 #[.val (.ref x), .val (.ref y), .val (.int (2 : Int32)), .val (.int (1 : Int32))] [(.int (2 : Int32)), (.int (2 : Int32))]))
      refine own_ic_geY X33 hx (pc := 51) (pc' := 111) (hb hby d12_51) (by decide) (by decide) (by decide) ?_
      show own_G p e below s _ _ _ (T33.setTop (mkF m 111 #[.val (.ref x), .val (.ref y), .val (.int (2 : Int32)), .val (.int (1 : Int32))] []))
      refine own_go (fun _ kk_ => XS.iconst X33.here hx rfl (hb hby d12_111) kk_) ?_
      show own_G p e below s _ _ _ (T33.setTop (mkF m 112 #[.val (.ref x), .val (.ref y), .val (.int (2 : Int32)), .val (.int (1 : Int32))] [(.int (0 : Int32))]))
      exact own_retN (t := .boolean) (ht := by simp) X33 hx Bd.returns (BodyLoose.notSynchronized Bd) (hb hby d12_112) e33 ⟨_, rfl, N20, rfl, Or.inr ⟨rfl, own_Dno hc4 hc11 hbr hrb (fun q => q.elim (fun q => hn00 q.2.2) (fun q => q.elim (fun q => absurd q.2.1 (by decide)) (fun q => q.elim (fun q => hn10 q.2.2) (fun q => absurd q.2.1 (by decide)))))⟩⟩ (by decide) (by decide)
theorem ef_rmDp22 (m : MethodId) (x0 : Addr) (x1 : Addr) : entryFrame m #[(.ref x0), (.ref x1)] 4 = mkF m 0 #[.val (.ref x0), .val (.ref x1), .unset, .unset] [] := by first | (simp [entryFrame, mkF, argsToLocals, Value.category]; done) | rfl
def Q_rmDp22 (Z : State) (x ca wa y da va : Addr) (kc kw kd kv : ClassId) (c0 c1 w0 w1 b1 r1 y1 d0 d1 v0 v1 b2 r2 y2 : Int32) (h0 : Heap) (n0 : Nat) : Option Value → Heap → List Loc → Prop := fun v h L => ∃ B : Int32, v = some (.int B) ∧ Fr n0 L ∧ h = h0 ∧ ((B = 1 ∧ (own_D y1 y2 b1 r1 b2 r2 (own_C 2 2 c0 c1 w0 w1 d0 d1 v0 v1))) ∨ (B = 0 ∧ ¬ (own_D y1 y2 b1 r1 b2 r2 (own_C 2 2 c0 c1 w0 w1 d0 d1 v0 v1))))
set_option maxRecDepth 65536 in
set_option maxHeartbeats 40000000 in
theorem rmDp22 (l : Launch) (Z : State) (a0 : Array Value) (hw : ∀ d ∈ tables_1, d.before a0 Z = true) (ws : List Jvm.Cond) (x ca wa y da va : Addr) (kc kw kd kv : ClassId) (c0 c1 w0 w1 b1 r1 y1 d0 d1 v0 v1 b2 r2 y2 : Int32) (h0 : Heap) (n0 : Nat) (Z0 : n0 ≤ h0.size) (FP : own_FP Z h0 x ca wa kc kw 2 c0 c1 w0 w1 b1 r1 y1) (FQ : own_FP Z h0 y da va kd kv 2 d0 d1 v0 v1 b2 r2 y2) :
    MetFree l (⟨"com/example/relyguard/relyguard/Footprint", "dependsOn", "(Lcom/example/relyguard/relyguard/Footprint;)Z"⟩ : MethodName) (head1 (Jvm.Cond.code (⟨"com/example/relyguard/relyguard/Footprint", "dependsOn", "(Lcom/example/relyguard/relyguard/Footprint;)Z"⟩ : MethodName) prog_47_method_13_code 4 (some .boolean) :: ws) ({ frames := 0, cells := 0, slots := 0, locals := 0 } : Room)) (fun as_ U => as_ = #[(.ref x), (.ref y)] ∧ Z.Warmed39 U.vm ∧ U.heap = h0) (fun _ _ _ _ _ => True) (fun _ U o U' => ∃ v L, o = .returned v ∧ (Q_rmDp22 Z x ca wa y da va kc kw kd kv c0 c1 w0 w1 b1 r1 y1 d0 d1 v0 v1 b2 r2 y2 h0 n0) v U'.heap L ∧ FrameEnd U o U' L ({ frames := 0, cells := 0, slots := 0, locals := 0 } : Room).cells ({ frames := 0, cells := 0, slots := 0, locals := 0 } : Room).slots) := by
  refine MetFree.of_bodySF (plainFor_of_name pn_2) hisR ?_
  intro p e s m args below meth c s₁ Bd hml0 hP hK
  obtain ⟨rfl, hZ, hh⟩ := hP
  have hx := Bd.exec
  have hby := Bd.bytes
  have hml : c.maxLocals = 4 := hml0
  have hown : s.vm.findClass "com/example/relyguard/relyguard/Footprint" = some m.cls := findClass_of_methodNamed Bd.named
  have hnm := (name_of_methodNamed Bd.named Bd.method).1
  have X0 : Stand p l e ({ frames := 0, cells := 0, slots := 0, locals := 0 } : Room) s m #[(.ref x), (.ref y)] below meth c s₁ [] 0 0 := Stand.of_body Bd
  have e0 : s₁.heap = h0 := by rw [← hh, Bd.state]; rfl
  have N0 := Fr.nil n0
  show own_G p e below s (Q_rmDp22 Z x ca wa y da va kc kw kd kv c0 c1 w0 w1 b1 r1 y1 d0 d1 v0 v1 b2 r2 y2 h0 n0) ({ frames := 0, cells := 0, slots := 0, locals := 0 } : Room).cells ({ frames := 0, cells := 0, slots := 0, locals := 0 } : Room).slots (s₁.setTop (entryFrame m #[(.ref x), (.ref y)] 4))
  rw [ef_rmDp22 m x y]
  obtain ⟨⟨E_x, F_cells, F_writes, F_touched, F_begins, F_returns, F_endsRun⟩, ⟨V_c, V_w⟩, ne1, ne2, ne3⟩ := FP
  obtain ⟨⟨E_x', F_cells', F_writes', F_touched', F_begins', F_returns', F_endsRun'⟩, ⟨V_c', V_w'⟩, ne1', ne2', ne3'⟩ := FQ
  show own_G p e below s _ _ _ (s₁.setTop (mkF m 0 #[.val (.ref x), .val (.ref y), .unset, .unset] []))
  refine own_go (fun _ kk_ => XS.aloadN X0.here hx rfl (hb hby d12_0) rfl rfl kk_) ?_
  show own_G p e below s _ _ _ (s₁.setTop (mkF m 1 #[.val (.ref x), .val (.ref y), .unset, .unset] [(.ref x)]))
  obtain ⟨T1, X1, e1, st1⟩ := getF X0 hx hZ hown (host := "") (Or.inl (hw _ (List.mem_of_getElem? (i := 74) rfl))) Via.refl e0 F_endsRun (g := (mkF m 1 #[.val (.ref x), .val (.ref y), .unset, .unset] [(.ref x)])) rfl rfl (hb hby d12_1)
  refine own_go st1 ?_
  show own_G p e below s _ _ _ (T1.setTop (mkF m 4 #[.val (.ref x), .val (.ref y), .unset, .unset] [(.int y1)]))
  refine own_if_ne X1 hx (pc := 4) (pc' := 42) (hb hby d12_4) (by decide) (by decide) (fun hc4 => ?_) (fun hc4 => ?_)
  · show own_G p e below s _ _ _ (T1.setTop (mkF m 42 #[.val (.ref x), .val (.ref y), .unset, .unset] []))
    refine own_go (fun _ kk_ => XS.iconst X1.here hx rfl (hb hby d12_42) kk_) ?_
    show own_G p e below s _ _ _ (T1.setTop (mkF m 43 #[.val (.ref x), .val (.ref y), .unset, .unset] [(.int (1 : Int32))]))
    exact own_retN (t := .boolean) (ht := by simp) X1 hx Bd.returns (BodyLoose.notSynchronized Bd) (hb hby d12_43) e1 ⟨_, rfl, N0, rfl, Or.inl ⟨rfl, Or.inl hc4⟩⟩ (by decide) (by decide)
  · show own_G p e below s _ _ _ (T1.setTop (mkF m 7 #[.val (.ref x), .val (.ref y), .unset, .unset] []))
    refine own_go (fun _ kk_ => XS.aloadN X1.here hx rfl (hb hby d12_7) rfl rfl kk_) ?_
    show own_G p e below s _ _ _ (T1.setTop (mkF m 8 #[.val (.ref x), .val (.ref y), .unset, .unset] [(.ref y)]))
    obtain ⟨T2, X2, e2, st2⟩ := getF X1 hx hZ hown (host := "") (Or.inl (hw _ (List.mem_of_getElem? (i := 74) rfl))) Via.refl e1 F_endsRun' (g := (mkF m 8 #[.val (.ref x), .val (.ref y), .unset, .unset] [(.ref y)])) rfl rfl (hb hby d12_8)
    refine own_go st2 ?_
    show own_G p e below s _ _ _ (T2.setTop (mkF m 11 #[.val (.ref x), .val (.ref y), .unset, .unset] [(.int y2)]))
    refine own_if_ne X2 hx (pc := 11) (pc' := 42) (hb hby d12_11) (by decide) (by decide) (fun hc11 => ?_) (fun hc11 => ?_)
    · show own_G p e below s _ _ _ (T2.setTop (mkF m 42 #[.val (.ref x), .val (.ref y), .unset, .unset] []))
      refine own_go (fun _ kk_ => XS.iconst X2.here hx rfl (hb hby d12_42) kk_) ?_
      show own_G p e below s _ _ _ (T2.setTop (mkF m 43 #[.val (.ref x), .val (.ref y), .unset, .unset] [(.int (1 : Int32))]))
      exact own_retN (t := .boolean) (ht := by simp) X2 hx Bd.returns (BodyLoose.notSynchronized Bd) (hb hby d12_43) e2 ⟨_, rfl, N0, rfl, Or.inl ⟨rfl, Or.inr (Or.inl hc11)⟩⟩ (by decide) (by decide)
    · suffices J3 : ∀ (T3 : State) (lo3 : List Loc), Stand p l e ({ frames := 0, cells := 0, slots := 0, locals := 0 } : Room) s m #[(.ref x), (.ref y)] below meth c T3 lo3 0 0 → Fr n0 lo3 → T3.heap = h0 → (¬ (¬ b1 = 0 ∧ ¬ r2 = 0)) → own_G p e below s (Q_rmDp22 Z x ca wa y da va kc kw kd kv c0 c1 w0 w1 b1 r1 y1 d0 d1 v0 v1 b2 r2 y2 h0 n0) ({ frames := 0, cells := 0, slots := 0, locals := 0 } : Room).cells ({ frames := 0, cells := 0, slots := 0, locals := 0 } : Room).slots (T3.setTop (mkF m 28 #[.val (.ref x), .val (.ref y), .unset, .unset] [])) by
        show own_G p e below s _ _ _ (T2.setTop (mkF m 14 #[.val (.ref x), .val (.ref y), .unset, .unset] []))
        refine own_go (fun _ kk_ => XS.aloadN X2.here hx rfl (hb hby d12_14) rfl rfl kk_) ?_
        show own_G p e below s _ _ _ (T2.setTop (mkF m 15 #[.val (.ref x), .val (.ref y), .unset, .unset] [(.ref x)]))
        obtain ⟨T4, X4, e4, st4⟩ := getF X2 hx hZ hown (host := "") (Or.inl (hw _ (List.mem_of_getElem? (i := 76) rfl))) Via.refl e2 F_begins (g := (mkF m 15 #[.val (.ref x), .val (.ref y), .unset, .unset] [(.ref x)])) rfl rfl (hb hby d12_15)
        refine own_go st4 ?_
        show own_G p e below s _ _ _ (T4.setTop (mkF m 18 #[.val (.ref x), .val (.ref y), .unset, .unset] [(.int b1)]))
        refine own_if_eq X4 hx (pc := 18) (pc' := 28) (hb hby d12_18) (by decide) (by decide) (fun hc18 => ?_) (fun hc18 => ?_)
        · exact J3 _ _ (X4.more (by decide) (by decide)) N0 e4 (fun q => q.1 hc18)
        · show own_G p e below s _ _ _ (T4.setTop (mkF m 21 #[.val (.ref x), .val (.ref y), .unset, .unset] []))
          refine own_go (fun _ kk_ => XS.aloadN X4.here hx rfl (hb hby d12_21) rfl rfl kk_) ?_
          show own_G p e below s _ _ _ (T4.setTop (mkF m 22 #[.val (.ref x), .val (.ref y), .unset, .unset] [(.ref y)]))
          obtain ⟨T5, X5, e5, st5⟩ := getF X4 hx hZ hown (host := "") (Or.inl (hw _ (List.mem_of_getElem? (i := 78) rfl))) Via.refl e4 F_returns' (g := (mkF m 22 #[.val (.ref x), .val (.ref y), .unset, .unset] [(.ref y)])) rfl rfl (hb hby d12_22)
          refine own_go st5 ?_
          show own_G p e below s _ _ _ (T5.setTop (mkF m 25 #[.val (.ref x), .val (.ref y), .unset, .unset] [(.int r2)]))
          refine own_if_ne X5 hx (pc := 25) (pc' := 42) (hb hby d12_25) (by decide) (by decide) (fun hc25 => ?_) (fun hc25 => ?_)
          · show own_G p e below s _ _ _ (T5.setTop (mkF m 42 #[.val (.ref x), .val (.ref y), .unset, .unset] []))
            refine own_go (fun _ kk_ => XS.iconst X5.here hx rfl (hb hby d12_42) kk_) ?_
            show own_G p e below s _ _ _ (T5.setTop (mkF m 43 #[.val (.ref x), .val (.ref y), .unset, .unset] [(.int (1 : Int32))]))
            exact own_retN (t := .boolean) (ht := by simp) X5 hx Bd.returns (BodyLoose.notSynchronized Bd) (hb hby d12_43) e5 ⟨_, rfl, N0, rfl, Or.inl ⟨rfl, Or.inr (Or.inr (Or.inl ⟨hc18, hc25⟩))⟩⟩ (by decide) (by decide)
          · exact J3 _ _ (X5.more (by decide) (by decide)) N0 e5 (fun q => q.2 hc25)
      intro T3 lo3 X3 N3 e3 hbr
      show own_G p e below s _ _ _ (T3.setTop (mkF m 28 #[.val (.ref x), .val (.ref y), .unset, .unset] []))
      suffices J6 : ∀ (T6 : State) (lo6 : List Loc), Stand p l e ({ frames := 0, cells := 0, slots := 0, locals := 0 } : Room) s m #[(.ref x), (.ref y)] below meth c T6 lo6 0 0 → Fr n0 lo6 → T6.heap = h0 → (¬ (¬ r1 = 0 ∧ ¬ b2 = 0)) → own_G p e below s (Q_rmDp22 Z x ca wa y da va kc kw kd kv c0 c1 w0 w1 b1 r1 y1 d0 d1 v0 v1 b2 r2 y2 h0 n0) ({ frames := 0, cells := 0, slots := 0, locals := 0 } : Room).cells ({ frames := 0, cells := 0, slots := 0, locals := 0 } : Room).slots (T6.setTop (mkF m 44 #[.val (.ref x), .val (.ref y), .unset, .unset] [])) by
        show own_G p e below s _ _ _ (T3.setTop (mkF m 28 #[.val (.ref x), .val (.ref y), .unset, .unset] []))
        refine own_go (fun _ kk_ => XS.aloadN X3.here hx rfl (hb hby d12_28) rfl rfl kk_) ?_
        show own_G p e below s _ _ _ (T3.setTop (mkF m 29 #[.val (.ref x), .val (.ref y), .unset, .unset] [(.ref x)]))
        obtain ⟨T7, X7, e7, st7⟩ := getF X3 hx hZ hown (host := "") (Or.inl (hw _ (List.mem_of_getElem? (i := 78) rfl))) Via.refl e3 F_returns (g := (mkF m 29 #[.val (.ref x), .val (.ref y), .unset, .unset] [(.ref x)])) rfl rfl (hb hby d12_29)
        refine own_go st7 ?_
        show own_G p e below s _ _ _ (T7.setTop (mkF m 32 #[.val (.ref x), .val (.ref y), .unset, .unset] [(.int r1)]))
        refine own_if_eq X7 hx (pc := 32) (pc' := 44) (hb hby d12_32) (by decide) (by decide) (fun hc32 => ?_) (fun hc32 => ?_)
        · exact J6 _ _ (X7.more (by decide) (by decide)) N3 e7 (fun q => q.1 hc32)
        · show own_G p e below s _ _ _ (T7.setTop (mkF m 35 #[.val (.ref x), .val (.ref y), .unset, .unset] []))
          refine own_go (fun _ kk_ => XS.aloadN X7.here hx rfl (hb hby d12_35) rfl rfl kk_) ?_
          show own_G p e below s _ _ _ (T7.setTop (mkF m 36 #[.val (.ref x), .val (.ref y), .unset, .unset] [(.ref y)]))
          obtain ⟨T8, X8, e8, st8⟩ := getF X7 hx hZ hown (host := "") (Or.inl (hw _ (List.mem_of_getElem? (i := 76) rfl))) Via.refl e7 F_begins' (g := (mkF m 36 #[.val (.ref x), .val (.ref y), .unset, .unset] [(.ref y)])) rfl rfl (hb hby d12_36)
          refine own_go st8 ?_
          show own_G p e below s _ _ _ (T8.setTop (mkF m 39 #[.val (.ref x), .val (.ref y), .unset, .unset] [(.int b2)]))
          refine own_if_eq X8 hx (pc := 39) (pc' := 44) (hb hby d12_39) (by decide) (by decide) (fun hc39 => ?_) (fun hc39 => ?_)
          · exact J6 _ _ (X8.more (by decide) (by decide)) N3 e8 (fun q => q.2 hc39)
          · show own_G p e below s _ _ _ (T8.setTop (mkF m 42 #[.val (.ref x), .val (.ref y), .unset, .unset] []))
            refine own_go (fun _ kk_ => XS.iconst X8.here hx rfl (hb hby d12_42) kk_) ?_
            show own_G p e below s _ _ _ (T8.setTop (mkF m 43 #[.val (.ref x), .val (.ref y), .unset, .unset] [(.int (1 : Int32))]))
            exact own_retN (t := .boolean) (ht := by simp) X8 hx Bd.returns (BodyLoose.notSynchronized Bd) (hb hby d12_43) e8 ⟨_, rfl, N3, rfl, Or.inl ⟨rfl, Or.inr (Or.inr (Or.inr (Or.inl ⟨hc32, hc39⟩)))⟩⟩ (by decide) (by decide)
      intro T6 lo6 X6 N6 e6 hrb
      show own_G p e below s _ _ _ (T6.setTop (mkF m 44 #[.val (.ref x), .val (.ref y), .unset, .unset] []))
      suffices J9 : ∀ (T9 : State) (lo9 : List Loc), Stand p l e ({ frames := 0, cells := 0, slots := 0, locals := 0 } : Room) s m #[(.ref x), (.ref y)] below meth c T9 lo9 0 0 → Fr n0 lo9 → T9.heap = h0 → (¬ own_cf c0 w0 d0 v0) → own_G p e below s (Q_rmDp22 Z x ca wa y da va kc kw kd kv c0 c1 w0 w1 b1 r1 y1 d0 d1 v0 v1 b2 r2 y2 h0 n0) ({ frames := 0, cells := 0, slots := 0, locals := 0 } : Room).cells ({ frames := 0, cells := 0, slots := 0, locals := 0 } : Room).slots (T9.setTop (mkF m 99 #[.val (.ref x), .val (.ref y), .val (.int (0 : Int32)), .val (.int (0 : Int32))] [])) by
        show own_G p e below s _ _ _ (T6.setTop (mkF m 44 #[.val (.ref x), .val (.ref y), .unset, .unset] []))
        refine own_go (fun _ kk_ => XS.iconst X6.here hx rfl (hb hby d12_44) kk_) ?_
        show own_G p e below s _ _ _ (T6.setTop (mkF m 45 #[.val (.ref x), .val (.ref y), .unset, .unset] [(.int (0 : Int32))]))
        refine own_go (fun _ kk_ => XS.istoreN X6.here hx rfl (hb hby d12_45) rfl (l' := #[.val (.ref x), .val (.ref y), .val (.int (0 : Int32)), .unset]) rfl kk_) ?_
        show own_G p e below s _ _ _ (T6.setTop (mkF m 46 #[.val (.ref x), .val (.ref y), .val (.int (0 : Int32)), .unset] []))
        refine own_go (fun _ kk_ => XS.iloadN X6.here hx rfl (hb hby d12_46) rfl kk_) ?_
        show own_G p e below s _ _ _ (T6.setTop (mkF m 47 #[.val (.ref x), .val (.ref y), .val (.int (0 : Int32)), .unset] [(.int (0 : Int32))]))
        refine own_go (fun _ kk_ => XS.aloadN X6.here hx rfl (hb hby d12_47) rfl rfl kk_) ?_
        show own_G p e below s _ _ _ (T6.setTop (mkF m 48 #[.val (.ref x), .val (.ref y), .val (.int (0 : Int32)), .unset] [(.ref x), (.int (0 : Int32))]))
        obtain ⟨T10, X10, e10, st10⟩ := getF X6 hx hZ hown (host := "") (Or.inl (hw _ (List.mem_of_getElem? (i := 80) rfl))) Via.refl e6 F_touched (g := (mkF m 48 #[.val (.ref x), .val (.ref y), .val (.int (0 : Int32)), .unset] [(.ref x), (.int (0 : Int32))])) rfl rfl (hb hby d12_48)
        refine own_go st10 ?_
        show own_G p e below s _ _ _ (T10.setTop (mkF m 51 #[.val (.ref x), .val (.ref y), .val (.int (0 : Int32)), .unset] [(.int (2 : Int32)), (.int (0 : Int32))]))
        refine own_ic_geN X10 hx (pc := 51) (hb hby d12_51) (by decide) ?_
        show own_G p e below s _ _ _ (T10.setTop (mkF m 54 #[.val (.ref x), .val (.ref y), .val (.int (0 : Int32)), .unset] []))
        refine own_go (fun _ kk_ => XS.iconst X10.here hx rfl (hb hby d12_54) kk_) ?_
        show own_G p e below s _ _ _ (T10.setTop (mkF m 55 #[.val (.ref x), .val (.ref y), .val (.int (0 : Int32)), .unset] [(.int (0 : Int32))]))
        refine own_go (fun _ kk_ => XS.istoreN X10.here hx rfl (hb hby d12_55) rfl (l' := #[.val (.ref x), .val (.ref y), .val (.int (0 : Int32)), .val (.int (0 : Int32))]) rfl kk_) ?_
        show own_G p e below s _ _ _ (T10.setTop (mkF m 56 #[.val (.ref x), .val (.ref y), .val (.int (0 : Int32)), .val (.int (0 : Int32))] []))
        refine own_go (fun _ kk_ => XS.iloadN X10.here hx rfl (hb hby d12_56) rfl kk_) ?_
        show own_G p e below s _ _ _ (T10.setTop (mkF m 57 #[.val (.ref x), .val (.ref y), .val (.int (0 : Int32)), .val (.int (0 : Int32))] [(.int (0 : Int32))]))
        refine own_go (fun _ kk_ => XS.aloadN X10.here hx rfl (hb hby d12_57) rfl rfl kk_) ?_
        show own_G p e below s _ _ _ (T10.setTop (mkF m 58 #[.val (.ref x), .val (.ref y), .val (.int (0 : Int32)), .val (.int (0 : Int32))] [(.ref y), (.int (0 : Int32))]))
        obtain ⟨T11, X11, e11, st11⟩ := getF X10 hx hZ hown (host := "") (Or.inl (hw _ (List.mem_of_getElem? (i := 80) rfl))) Via.refl e10 F_touched' (g := (mkF m 58 #[.val (.ref x), .val (.ref y), .val (.int (0 : Int32)), .val (.int (0 : Int32))] [(.ref y), (.int (0 : Int32))])) rfl rfl (hb hby d12_58)
        refine own_go st11 ?_
        show own_G p e below s _ _ _ (T11.setTop (mkF m 61 #[.val (.ref x), .val (.ref y), .val (.int (0 : Int32)), .val (.int (0 : Int32))] [(.int (2 : Int32)), (.int (0 : Int32))]))
        refine own_ic_geN X11 hx (pc := 61) (hb hby d12_61) (by decide) ?_
        show own_G p e below s _ _ _ (T11.setTop (mkF m 64 #[.val (.ref x), .val (.ref y), .val (.int (0 : Int32)), .val (.int (0 : Int32))] []))
        refine own_go (fun _ kk_ => XS.aloadN X11.here hx rfl (hb hby d12_64) rfl rfl kk_) ?_
        show own_G p e below s _ _ _ (T11.setTop (mkF m 65 #[.val (.ref x), .val (.ref y), .val (.int (0 : Int32)), .val (.int (0 : Int32))] [(.ref x)]))
        obtain ⟨T12, X12, e12, st12⟩ := getF X11 hx hZ hown (host := "") (Or.inl (hw _ (List.mem_of_getElem? (i := 41) rfl))) Via.refl e11 F_cells (g := (mkF m 65 #[.val (.ref x), .val (.ref y), .val (.int (0 : Int32)), .val (.int (0 : Int32))] [(.ref x)])) rfl rfl (hb hby d12_65)
        refine own_go st12 ?_
        show own_G p e below s _ _ _ (T12.setTop (mkF m 68 #[.val (.ref x), .val (.ref y), .val (.int (0 : Int32)), .val (.int (0 : Int32))] [(.ref ca)]))
        refine own_go (fun _ kk_ => XS.iloadN X12.here hx rfl (hb hby d12_68) rfl kk_) ?_
        show own_G p e below s _ _ _ (T12.setTop (mkF m 69 #[.val (.ref x), .val (.ref y), .val (.int (0 : Int32)), .val (.int (0 : Int32))] [(.int (0 : Int32)), (.ref ca)]))
        have Vc13 := V_c
        obtain ⟨cl13, Ar13, q13, S13, M13, H13, G13⟩ := Vc13
        have hin13 := inb_of (j := (0 : Int32)) S13 ⟨(by decide), (by decide)⟩
        have hat13 := H13.at hin13 (v := (.int c0)) rfl
        refine own_go (X12.iaload hx (j := (0 : Int32)) (v := (.int c0)) (by rw [e12]; exact Ar13.1) (State.isArrayOf_alike hZ.alike Ar13.2.1) Ar13.2.2 hin13 hat13 (g := (mkF m 69 #[.val (.ref x), .val (.ref y), .val (.int (0 : Int32)), .val (.int (0 : Int32))] [(.int (0 : Int32)), (.ref ca)])) rfl rfl (hb hby d12_69)) ?_
        show own_G p e below s _ _ _ (T12.setTop (mkF m 70 #[.val (.ref x), .val (.ref y), .val (.int (0 : Int32)), .val (.int (0 : Int32))] [(.int c0)]))
        refine own_go (fun _ kk_ => XS.aloadN X12.here hx rfl (hb hby d12_70) rfl rfl kk_) ?_
        show own_G p e below s _ _ _ (T12.setTop (mkF m 71 #[.val (.ref x), .val (.ref y), .val (.int (0 : Int32)), .val (.int (0 : Int32))] [(.ref y), (.int c0)]))
        obtain ⟨T14, X14, e14, st14⟩ := getF X12 hx hZ hown (host := "") (Or.inl (hw _ (List.mem_of_getElem? (i := 41) rfl))) Via.refl e12 F_cells' (g := (mkF m 71 #[.val (.ref x), .val (.ref y), .val (.int (0 : Int32)), .val (.int (0 : Int32))] [(.ref y), (.int c0)])) rfl rfl (hb hby d12_71)
        refine own_go st14 ?_
        show own_G p e below s _ _ _ (T14.setTop (mkF m 74 #[.val (.ref x), .val (.ref y), .val (.int (0 : Int32)), .val (.int (0 : Int32))] [(.ref da), (.int c0)]))
        refine own_go (fun _ kk_ => XS.iloadN X14.here hx rfl (hb hby d12_74) rfl kk_) ?_
        show own_G p e below s _ _ _ (T14.setTop (mkF m 75 #[.val (.ref x), .val (.ref y), .val (.int (0 : Int32)), .val (.int (0 : Int32))] [(.int (0 : Int32)), (.ref da), (.int c0)]))
        have Vc15 := V_c'
        obtain ⟨cl15, Ar15, q15, S15, M15, H15, G15⟩ := Vc15
        have hin15 := inb_of (j := (0 : Int32)) S15 ⟨(by decide), (by decide)⟩
        have hat15 := H15.at hin15 (v := (.int d0)) rfl
        refine own_go (X14.iaload hx (j := (0 : Int32)) (v := (.int d0)) (by rw [e14]; exact Ar15.1) (State.isArrayOf_alike hZ.alike Ar15.2.1) Ar15.2.2 hin15 hat15 (g := (mkF m 75 #[.val (.ref x), .val (.ref y), .val (.int (0 : Int32)), .val (.int (0 : Int32))] [(.int (0 : Int32)), (.ref da), (.int c0)])) rfl rfl (hb hby d12_75)) ?_
        show own_G p e below s _ _ _ (T14.setTop (mkF m 76 #[.val (.ref x), .val (.ref y), .val (.int (0 : Int32)), .val (.int (0 : Int32))] [(.int d0), (.int c0)]))
        refine own_ic_ne X14 hx (pc := 76) (pc' := 99) (hb hby d12_76) (by decide) (by decide) (fun hc76 => ?_) (fun hc76 => ?_)
        · exact J9 _ _ (X14.more (by decide) (by decide)) N6 e14 (fun q => hc76 q.1)
        · show own_G p e below s _ _ _ (T14.setTop (mkF m 79 #[.val (.ref x), .val (.ref y), .val (.int (0 : Int32)), .val (.int (0 : Int32))] []))
          refine own_go (fun _ kk_ => XS.aloadN X14.here hx rfl (hb hby d12_79) rfl rfl kk_) ?_
          show own_G p e below s _ _ _ (T14.setTop (mkF m 80 #[.val (.ref x), .val (.ref y), .val (.int (0 : Int32)), .val (.int (0 : Int32))] [(.ref x)]))
          obtain ⟨T16, X16, e16, st16⟩ := getF X14 hx hZ hown (host := "") (Or.inl (hw _ (List.mem_of_getElem? (i := 44) rfl))) Via.refl e14 F_writes (g := (mkF m 80 #[.val (.ref x), .val (.ref y), .val (.int (0 : Int32)), .val (.int (0 : Int32))] [(.ref x)])) rfl rfl (hb hby d12_80)
          refine own_go st16 ?_
          show own_G p e below s _ _ _ (T16.setTop (mkF m 83 #[.val (.ref x), .val (.ref y), .val (.int (0 : Int32)), .val (.int (0 : Int32))] [(.ref wa)]))
          refine own_go (fun _ kk_ => XS.iloadN X16.here hx rfl (hb hby d12_83) rfl kk_) ?_
          show own_G p e below s _ _ _ (T16.setTop (mkF m 84 #[.val (.ref x), .val (.ref y), .val (.int (0 : Int32)), .val (.int (0 : Int32))] [(.int (0 : Int32)), (.ref wa)]))
          have Vc17 := V_w
          obtain ⟨cl17, Ar17, q17, S17, M17, H17, G17⟩ := Vc17
          have hin17 := inb_of (j := (0 : Int32)) S17 ⟨(by decide), (by decide)⟩
          have hat17 := H17.at hin17 (v := (.int w0)) rfl
          refine own_go (X16.baloadBooleans hx (j := (0 : Int32)) (v := (.int w0)) (by rw [e16]; exact Ar17.1) (State.isArrayOf_alike hZ.alike Ar17.2.1) Ar17.2.2 hin17 hat17 (g := (mkF m 84 #[.val (.ref x), .val (.ref y), .val (.int (0 : Int32)), .val (.int (0 : Int32))] [(.int (0 : Int32)), (.ref wa)])) rfl rfl (hb hby d12_84)) ?_
          show own_G p e below s _ _ _ (T16.setTop (mkF m 85 #[.val (.ref x), .val (.ref y), .val (.int (0 : Int32)), .val (.int (0 : Int32))] [(.int w0)]))
          refine own_if_ne X16 hx (pc := 85) (pc' := 97) (hb hby d12_85) (by decide) (by decide) (fun hc85 => ?_) (fun hc85 => ?_)
          · show own_G p e below s _ _ _ (T16.setTop (mkF m 97 #[.val (.ref x), .val (.ref y), .val (.int (0 : Int32)), .val (.int (0 : Int32))] []))
            refine own_go (fun _ kk_ => XS.iconst X16.here hx rfl (hb hby d12_97) kk_) ?_
            show own_G p e below s _ _ _ (T16.setTop (mkF m 98 #[.val (.ref x), .val (.ref y), .val (.int (0 : Int32)), .val (.int (0 : Int32))] [(.int (1 : Int32))]))
            exact own_retN (t := .boolean) (ht := by simp) X16 hx Bd.returns (BodyLoose.notSynchronized Bd) (hb hby d12_98) e16 ⟨_, rfl, N6, rfl, Or.inl ⟨rfl, Or.inr (Or.inr (Or.inr (Or.inr (Or.inl ⟨by decide, by decide, ⟨hc76, Or.inl hc85⟩⟩))))⟩⟩ (by decide) (by decide)
          · show own_G p e below s _ _ _ (T16.setTop (mkF m 88 #[.val (.ref x), .val (.ref y), .val (.int (0 : Int32)), .val (.int (0 : Int32))] []))
            refine own_go (fun _ kk_ => XS.aloadN X16.here hx rfl (hb hby d12_88) rfl rfl kk_) ?_
            show own_G p e below s _ _ _ (T16.setTop (mkF m 89 #[.val (.ref x), .val (.ref y), .val (.int (0 : Int32)), .val (.int (0 : Int32))] [(.ref y)]))
            obtain ⟨T18, X18, e18, st18⟩ := getF X16 hx hZ hown (host := "") (Or.inl (hw _ (List.mem_of_getElem? (i := 44) rfl))) Via.refl e16 F_writes' (g := (mkF m 89 #[.val (.ref x), .val (.ref y), .val (.int (0 : Int32)), .val (.int (0 : Int32))] [(.ref y)])) rfl rfl (hb hby d12_89)
            refine own_go st18 ?_
            show own_G p e below s _ _ _ (T18.setTop (mkF m 92 #[.val (.ref x), .val (.ref y), .val (.int (0 : Int32)), .val (.int (0 : Int32))] [(.ref va)]))
            refine own_go (fun _ kk_ => XS.iloadN X18.here hx rfl (hb hby d12_92) rfl kk_) ?_
            show own_G p e below s _ _ _ (T18.setTop (mkF m 93 #[.val (.ref x), .val (.ref y), .val (.int (0 : Int32)), .val (.int (0 : Int32))] [(.int (0 : Int32)), (.ref va)]))
            have Vc19 := V_w'
            obtain ⟨cl19, Ar19, q19, S19, M19, H19, G19⟩ := Vc19
            have hin19 := inb_of (j := (0 : Int32)) S19 ⟨(by decide), (by decide)⟩
            have hat19 := H19.at hin19 (v := (.int v0)) rfl
            refine own_go (X18.baloadBooleans hx (j := (0 : Int32)) (v := (.int v0)) (by rw [e18]; exact Ar19.1) (State.isArrayOf_alike hZ.alike Ar19.2.1) Ar19.2.2 hin19 hat19 (g := (mkF m 93 #[.val (.ref x), .val (.ref y), .val (.int (0 : Int32)), .val (.int (0 : Int32))] [(.int (0 : Int32)), (.ref va)])) rfl rfl (hb hby d12_93)) ?_
            show own_G p e below s _ _ _ (T18.setTop (mkF m 94 #[.val (.ref x), .val (.ref y), .val (.int (0 : Int32)), .val (.int (0 : Int32))] [(.int v0)]))
            refine own_if_eq X18 hx (pc := 94) (pc' := 99) (hb hby d12_94) (by decide) (by decide) (fun hc94 => ?_) (fun hc94 => ?_)
            · exact J9 _ _ (X18.more (by decide) (by decide)) N6 e18 (fun q => q.2.elim (fun z => z hc85) (fun z => z hc94))
            · show own_G p e below s _ _ _ (T18.setTop (mkF m 97 #[.val (.ref x), .val (.ref y), .val (.int (0 : Int32)), .val (.int (0 : Int32))] []))
              refine own_go (fun _ kk_ => XS.iconst X18.here hx rfl (hb hby d12_97) kk_) ?_
              show own_G p e below s _ _ _ (T18.setTop (mkF m 98 #[.val (.ref x), .val (.ref y), .val (.int (0 : Int32)), .val (.int (0 : Int32))] [(.int (1 : Int32))]))
              exact own_retN (t := .boolean) (ht := by simp) X18 hx Bd.returns (BodyLoose.notSynchronized Bd) (hb hby d12_98) e18 ⟨_, rfl, N6, rfl, Or.inl ⟨rfl, Or.inr (Or.inr (Or.inr (Or.inr (Or.inl ⟨by decide, by decide, ⟨hc76, Or.inr hc94⟩⟩))))⟩⟩ (by decide) (by decide)
      intro T9 lo9 X9 N9 e9 hn00
      show own_G p e below s _ _ _ (T9.setTop (mkF m 99 #[.val (.ref x), .val (.ref y), .val (.int (0 : Int32)), .val (.int (0 : Int32))] []))
      suffices J20 : ∀ (T20 : State) (lo20 : List Loc), Stand p l e ({ frames := 0, cells := 0, slots := 0, locals := 0 } : Room) s m #[(.ref x), (.ref y)] below meth c T20 lo20 0 0 → Fr n0 lo20 → T20.heap = h0 → (¬ own_cf c0 w0 d1 v1) → own_G p e below s (Q_rmDp22 Z x ca wa y da va kc kw kd kv c0 c1 w0 w1 b1 r1 y1 d0 d1 v0 v1 b2 r2 y2 h0 n0) ({ frames := 0, cells := 0, slots := 0, locals := 0 } : Room).cells ({ frames := 0, cells := 0, slots := 0, locals := 0 } : Room).slots (T20.setTop (mkF m 99 #[.val (.ref x), .val (.ref y), .val (.int (0 : Int32)), .val (.int (1 : Int32))] [])) by
        show own_G p e below s _ _ _ (T9.setTop (mkF m 99 #[.val (.ref x), .val (.ref y), .val (.int (0 : Int32)), .val (.int (0 : Int32))] []))
        refine own_go (fun _ kk_ => XS.iinc X9.here hx rfl (hb hby d12_99) rfl (l' := #[.val (.ref x), .val (.ref y), .val (.int (0 : Int32)), .val (.int (1 : Int32))]) rfl kk_) ?_
        show own_G p e below s _ _ _ (T9.setTop (mkF m 102 #[.val (.ref x), .val (.ref y), .val (.int (0 : Int32)), .val (.int (1 : Int32))] []))
        refine own_go (fun _ kk_ => XS.goto X9.here hx rfl (pc0 := 102) (pc' := 56) rfl (hb hby d12_102) (by decide) (by decide) kk_) ?_
        show own_G p e below s _ _ _ (T9.setTop (mkF m 56 #[.val (.ref x), .val (.ref y), .val (.int (0 : Int32)), .val (.int (1 : Int32))] []))
        refine own_go (fun _ kk_ => XS.iloadN X9.here hx rfl (hb hby d12_56) rfl kk_) ?_
        show own_G p e below s _ _ _ (T9.setTop (mkF m 57 #[.val (.ref x), .val (.ref y), .val (.int (0 : Int32)), .val (.int (1 : Int32))] [(.int (1 : Int32))]))
        refine own_go (fun _ kk_ => XS.aloadN X9.here hx rfl (hb hby d12_57) rfl rfl kk_) ?_
        show own_G p e below s _ _ _ (T9.setTop (mkF m 58 #[.val (.ref x), .val (.ref y), .val (.int (0 : Int32)), .val (.int (1 : Int32))] [(.ref y), (.int (1 : Int32))]))
        obtain ⟨T21, X21, e21, st21⟩ := getF X9 hx hZ hown (host := "") (Or.inl (hw _ (List.mem_of_getElem? (i := 80) rfl))) Via.refl e9 F_touched' (g := (mkF m 58 #[.val (.ref x), .val (.ref y), .val (.int (0 : Int32)), .val (.int (1 : Int32))] [(.ref y), (.int (1 : Int32))])) rfl rfl (hb hby d12_58)
        refine own_go st21 ?_
        show own_G p e below s _ _ _ (T21.setTop (mkF m 61 #[.val (.ref x), .val (.ref y), .val (.int (0 : Int32)), .val (.int (1 : Int32))] [(.int (2 : Int32)), (.int (1 : Int32))]))
        refine own_ic_geN X21 hx (pc := 61) (hb hby d12_61) (by decide) ?_
        show own_G p e below s _ _ _ (T21.setTop (mkF m 64 #[.val (.ref x), .val (.ref y), .val (.int (0 : Int32)), .val (.int (1 : Int32))] []))
        refine own_go (fun _ kk_ => XS.aloadN X21.here hx rfl (hb hby d12_64) rfl rfl kk_) ?_
        show own_G p e below s _ _ _ (T21.setTop (mkF m 65 #[.val (.ref x), .val (.ref y), .val (.int (0 : Int32)), .val (.int (1 : Int32))] [(.ref x)]))
        obtain ⟨T22, X22, e22, st22⟩ := getF X21 hx hZ hown (host := "") (Or.inl (hw _ (List.mem_of_getElem? (i := 41) rfl))) Via.refl e21 F_cells (g := (mkF m 65 #[.val (.ref x), .val (.ref y), .val (.int (0 : Int32)), .val (.int (1 : Int32))] [(.ref x)])) rfl rfl (hb hby d12_65)
        refine own_go st22 ?_
        show own_G p e below s _ _ _ (T22.setTop (mkF m 68 #[.val (.ref x), .val (.ref y), .val (.int (0 : Int32)), .val (.int (1 : Int32))] [(.ref ca)]))
        refine own_go (fun _ kk_ => XS.iloadN X22.here hx rfl (hb hby d12_68) rfl kk_) ?_
        show own_G p e below s _ _ _ (T22.setTop (mkF m 69 #[.val (.ref x), .val (.ref y), .val (.int (0 : Int32)), .val (.int (1 : Int32))] [(.int (0 : Int32)), (.ref ca)]))
        have Vc23 := V_c
        obtain ⟨cl23, Ar23, q23, S23, M23, H23, G23⟩ := Vc23
        have hin23 := inb_of (j := (0 : Int32)) S23 ⟨(by decide), (by decide)⟩
        have hat23 := H23.at hin23 (v := (.int c0)) rfl
        refine own_go (X22.iaload hx (j := (0 : Int32)) (v := (.int c0)) (by rw [e22]; exact Ar23.1) (State.isArrayOf_alike hZ.alike Ar23.2.1) Ar23.2.2 hin23 hat23 (g := (mkF m 69 #[.val (.ref x), .val (.ref y), .val (.int (0 : Int32)), .val (.int (1 : Int32))] [(.int (0 : Int32)), (.ref ca)])) rfl rfl (hb hby d12_69)) ?_
        show own_G p e below s _ _ _ (T22.setTop (mkF m 70 #[.val (.ref x), .val (.ref y), .val (.int (0 : Int32)), .val (.int (1 : Int32))] [(.int c0)]))
        refine own_go (fun _ kk_ => XS.aloadN X22.here hx rfl (hb hby d12_70) rfl rfl kk_) ?_
        show own_G p e below s _ _ _ (T22.setTop (mkF m 71 #[.val (.ref x), .val (.ref y), .val (.int (0 : Int32)), .val (.int (1 : Int32))] [(.ref y), (.int c0)]))
        obtain ⟨T24, X24, e24, st24⟩ := getF X22 hx hZ hown (host := "") (Or.inl (hw _ (List.mem_of_getElem? (i := 41) rfl))) Via.refl e22 F_cells' (g := (mkF m 71 #[.val (.ref x), .val (.ref y), .val (.int (0 : Int32)), .val (.int (1 : Int32))] [(.ref y), (.int c0)])) rfl rfl (hb hby d12_71)
        refine own_go st24 ?_
        show own_G p e below s _ _ _ (T24.setTop (mkF m 74 #[.val (.ref x), .val (.ref y), .val (.int (0 : Int32)), .val (.int (1 : Int32))] [(.ref da), (.int c0)]))
        refine own_go (fun _ kk_ => XS.iloadN X24.here hx rfl (hb hby d12_74) rfl kk_) ?_
        show own_G p e below s _ _ _ (T24.setTop (mkF m 75 #[.val (.ref x), .val (.ref y), .val (.int (0 : Int32)), .val (.int (1 : Int32))] [(.int (1 : Int32)), (.ref da), (.int c0)]))
        have Vc25 := V_c'
        obtain ⟨cl25, Ar25, q25, S25, M25, H25, G25⟩ := Vc25
        have hin25 := inb_of (j := (1 : Int32)) S25 ⟨(by decide), (by decide)⟩
        have hat25 := H25.at hin25 (v := (.int d1)) rfl
        refine own_go (X24.iaload hx (j := (1 : Int32)) (v := (.int d1)) (by rw [e24]; exact Ar25.1) (State.isArrayOf_alike hZ.alike Ar25.2.1) Ar25.2.2 hin25 hat25 (g := (mkF m 75 #[.val (.ref x), .val (.ref y), .val (.int (0 : Int32)), .val (.int (1 : Int32))] [(.int (1 : Int32)), (.ref da), (.int c0)])) rfl rfl (hb hby d12_75)) ?_
        show own_G p e below s _ _ _ (T24.setTop (mkF m 76 #[.val (.ref x), .val (.ref y), .val (.int (0 : Int32)), .val (.int (1 : Int32))] [(.int d1), (.int c0)]))
        refine own_ic_ne X24 hx (pc := 76) (pc' := 99) (hb hby d12_76) (by decide) (by decide) (fun hc76 => ?_) (fun hc76 => ?_)
        · exact J20 _ _ (X24.more (by decide) (by decide)) N9 e24 (fun q => hc76 q.1)
        · show own_G p e below s _ _ _ (T24.setTop (mkF m 79 #[.val (.ref x), .val (.ref y), .val (.int (0 : Int32)), .val (.int (1 : Int32))] []))
          refine own_go (fun _ kk_ => XS.aloadN X24.here hx rfl (hb hby d12_79) rfl rfl kk_) ?_
          show own_G p e below s _ _ _ (T24.setTop (mkF m 80 #[.val (.ref x), .val (.ref y), .val (.int (0 : Int32)), .val (.int (1 : Int32))] [(.ref x)]))
          obtain ⟨T26, X26, e26, st26⟩ := getF X24 hx hZ hown (host := "") (Or.inl (hw _ (List.mem_of_getElem? (i := 44) rfl))) Via.refl e24 F_writes (g := (mkF m 80 #[.val (.ref x), .val (.ref y), .val (.int (0 : Int32)), .val (.int (1 : Int32))] [(.ref x)])) rfl rfl (hb hby d12_80)
          refine own_go st26 ?_
          show own_G p e below s _ _ _ (T26.setTop (mkF m 83 #[.val (.ref x), .val (.ref y), .val (.int (0 : Int32)), .val (.int (1 : Int32))] [(.ref wa)]))
          refine own_go (fun _ kk_ => XS.iloadN X26.here hx rfl (hb hby d12_83) rfl kk_) ?_
          show own_G p e below s _ _ _ (T26.setTop (mkF m 84 #[.val (.ref x), .val (.ref y), .val (.int (0 : Int32)), .val (.int (1 : Int32))] [(.int (0 : Int32)), (.ref wa)]))
          have Vc27 := V_w
          obtain ⟨cl27, Ar27, q27, S27, M27, H27, G27⟩ := Vc27
          have hin27 := inb_of (j := (0 : Int32)) S27 ⟨(by decide), (by decide)⟩
          have hat27 := H27.at hin27 (v := (.int w0)) rfl
          refine own_go (X26.baloadBooleans hx (j := (0 : Int32)) (v := (.int w0)) (by rw [e26]; exact Ar27.1) (State.isArrayOf_alike hZ.alike Ar27.2.1) Ar27.2.2 hin27 hat27 (g := (mkF m 84 #[.val (.ref x), .val (.ref y), .val (.int (0 : Int32)), .val (.int (1 : Int32))] [(.int (0 : Int32)), (.ref wa)])) rfl rfl (hb hby d12_84)) ?_
          show own_G p e below s _ _ _ (T26.setTop (mkF m 85 #[.val (.ref x), .val (.ref y), .val (.int (0 : Int32)), .val (.int (1 : Int32))] [(.int w0)]))
          refine own_if_ne X26 hx (pc := 85) (pc' := 97) (hb hby d12_85) (by decide) (by decide) (fun hc85 => ?_) (fun hc85 => ?_)
          · show own_G p e below s _ _ _ (T26.setTop (mkF m 97 #[.val (.ref x), .val (.ref y), .val (.int (0 : Int32)), .val (.int (1 : Int32))] []))
            refine own_go (fun _ kk_ => XS.iconst X26.here hx rfl (hb hby d12_97) kk_) ?_
            show own_G p e below s _ _ _ (T26.setTop (mkF m 98 #[.val (.ref x), .val (.ref y), .val (.int (0 : Int32)), .val (.int (1 : Int32))] [(.int (1 : Int32))]))
            exact own_retN (t := .boolean) (ht := by simp) X26 hx Bd.returns (BodyLoose.notSynchronized Bd) (hb hby d12_98) e26 ⟨_, rfl, N9, rfl, Or.inl ⟨rfl, Or.inr (Or.inr (Or.inr (Or.inr (Or.inr (Or.inl ⟨by decide, by decide, ⟨hc76, Or.inl hc85⟩⟩)))))⟩⟩ (by decide) (by decide)
          · show own_G p e below s _ _ _ (T26.setTop (mkF m 88 #[.val (.ref x), .val (.ref y), .val (.int (0 : Int32)), .val (.int (1 : Int32))] []))
            refine own_go (fun _ kk_ => XS.aloadN X26.here hx rfl (hb hby d12_88) rfl rfl kk_) ?_
            show own_G p e below s _ _ _ (T26.setTop (mkF m 89 #[.val (.ref x), .val (.ref y), .val (.int (0 : Int32)), .val (.int (1 : Int32))] [(.ref y)]))
            obtain ⟨T28, X28, e28, st28⟩ := getF X26 hx hZ hown (host := "") (Or.inl (hw _ (List.mem_of_getElem? (i := 44) rfl))) Via.refl e26 F_writes' (g := (mkF m 89 #[.val (.ref x), .val (.ref y), .val (.int (0 : Int32)), .val (.int (1 : Int32))] [(.ref y)])) rfl rfl (hb hby d12_89)
            refine own_go st28 ?_
            show own_G p e below s _ _ _ (T28.setTop (mkF m 92 #[.val (.ref x), .val (.ref y), .val (.int (0 : Int32)), .val (.int (1 : Int32))] [(.ref va)]))
            refine own_go (fun _ kk_ => XS.iloadN X28.here hx rfl (hb hby d12_92) rfl kk_) ?_
            show own_G p e below s _ _ _ (T28.setTop (mkF m 93 #[.val (.ref x), .val (.ref y), .val (.int (0 : Int32)), .val (.int (1 : Int32))] [(.int (1 : Int32)), (.ref va)]))
            have Vc29 := V_w'
            obtain ⟨cl29, Ar29, q29, S29, M29, H29, G29⟩ := Vc29
            have hin29 := inb_of (j := (1 : Int32)) S29 ⟨(by decide), (by decide)⟩
            have hat29 := H29.at hin29 (v := (.int v1)) rfl
            refine own_go (X28.baloadBooleans hx (j := (1 : Int32)) (v := (.int v1)) (by rw [e28]; exact Ar29.1) (State.isArrayOf_alike hZ.alike Ar29.2.1) Ar29.2.2 hin29 hat29 (g := (mkF m 93 #[.val (.ref x), .val (.ref y), .val (.int (0 : Int32)), .val (.int (1 : Int32))] [(.int (1 : Int32)), (.ref va)])) rfl rfl (hb hby d12_93)) ?_
            show own_G p e below s _ _ _ (T28.setTop (mkF m 94 #[.val (.ref x), .val (.ref y), .val (.int (0 : Int32)), .val (.int (1 : Int32))] [(.int v1)]))
            refine own_if_eq X28 hx (pc := 94) (pc' := 99) (hb hby d12_94) (by decide) (by decide) (fun hc94 => ?_) (fun hc94 => ?_)
            · exact J20 _ _ (X28.more (by decide) (by decide)) N9 e28 (fun q => q.2.elim (fun z => z hc85) (fun z => z hc94))
            · show own_G p e below s _ _ _ (T28.setTop (mkF m 97 #[.val (.ref x), .val (.ref y), .val (.int (0 : Int32)), .val (.int (1 : Int32))] []))
              refine own_go (fun _ kk_ => XS.iconst X28.here hx rfl (hb hby d12_97) kk_) ?_
              show own_G p e below s _ _ _ (T28.setTop (mkF m 98 #[.val (.ref x), .val (.ref y), .val (.int (0 : Int32)), .val (.int (1 : Int32))] [(.int (1 : Int32))]))
              exact own_retN (t := .boolean) (ht := by simp) X28 hx Bd.returns (BodyLoose.notSynchronized Bd) (hb hby d12_98) e28 ⟨_, rfl, N9, rfl, Or.inl ⟨rfl, Or.inr (Or.inr (Or.inr (Or.inr (Or.inr (Or.inl ⟨by decide, by decide, ⟨hc76, Or.inr hc94⟩⟩)))))⟩⟩ (by decide) (by decide)
      intro T20 lo20 X20 N20 e20 hn01
      show own_G p e below s _ _ _ (T20.setTop (mkF m 99 #[.val (.ref x), .val (.ref y), .val (.int (0 : Int32)), .val (.int (1 : Int32))] []))
      suffices J30 : ∀ (T30 : State) (lo30 : List Loc), Stand p l e ({ frames := 0, cells := 0, slots := 0, locals := 0 } : Room) s m #[(.ref x), (.ref y)] below meth c T30 lo30 0 0 → Fr n0 lo30 → T30.heap = h0 → (¬ own_cf c1 w1 d0 v0) → own_G p e below s (Q_rmDp22 Z x ca wa y da va kc kw kd kv c0 c1 w0 w1 b1 r1 y1 d0 d1 v0 v1 b2 r2 y2 h0 n0) ({ frames := 0, cells := 0, slots := 0, locals := 0 } : Room).cells ({ frames := 0, cells := 0, slots := 0, locals := 0 } : Room).slots (T30.setTop (mkF m 99 #[.val (.ref x), .val (.ref y), .val (.int (1 : Int32)), .val (.int (0 : Int32))] [])) by
        show own_G p e below s _ _ _ (T20.setTop (mkF m 99 #[.val (.ref x), .val (.ref y), .val (.int (0 : Int32)), .val (.int (1 : Int32))] []))
        refine own_go (fun _ kk_ => XS.iinc X20.here hx rfl (hb hby d12_99) rfl (l' := #[.val (.ref x), .val (.ref y), .val (.int (0 : Int32)), .val (.int (2 : Int32))]) rfl kk_) ?_
        show own_G p e below s _ _ _ (T20.setTop (mkF m 102 #[.val (.ref x), .val (.ref y), .val (.int (0 : Int32)), .val (.int (2 : Int32))] []))
        refine own_go (fun _ kk_ => XS.goto X20.here hx rfl (pc0 := 102) (pc' := 56) rfl (hb hby d12_102) (by decide) (by decide) kk_) ?_
        show own_G p e below s _ _ _ (T20.setTop (mkF m 56 #[.val (.ref x), .val (.ref y), .val (.int (0 : Int32)), .val (.int (2 : Int32))] []))
        refine own_go (fun _ kk_ => XS.iloadN X20.here hx rfl (hb hby d12_56) rfl kk_) ?_
        show own_G p e below s _ _ _ (T20.setTop (mkF m 57 #[.val (.ref x), .val (.ref y), .val (.int (0 : Int32)), .val (.int (2 : Int32))] [(.int (2 : Int32))]))
        refine own_go (fun _ kk_ => XS.aloadN X20.here hx rfl (hb hby d12_57) rfl rfl kk_) ?_
        show own_G p e below s _ _ _ (T20.setTop (mkF m 58 #[.val (.ref x), .val (.ref y), .val (.int (0 : Int32)), .val (.int (2 : Int32))] [(.ref y), (.int (2 : Int32))]))
        obtain ⟨T31, X31, e31, st31⟩ := getF X20 hx hZ hown (host := "") (Or.inl (hw _ (List.mem_of_getElem? (i := 80) rfl))) Via.refl e20 F_touched' (g := (mkF m 58 #[.val (.ref x), .val (.ref y), .val (.int (0 : Int32)), .val (.int (2 : Int32))] [(.ref y), (.int (2 : Int32))])) rfl rfl (hb hby d12_58)
        refine own_go st31 ?_
        show own_G p e below s _ _ _ (T31.setTop (mkF m 61 #[.val (.ref x), .val (.ref y), .val (.int (0 : Int32)), .val (.int (2 : Int32))] [(.int (2 : Int32)), (.int (2 : Int32))]))
        refine own_ic_geY X31 hx (pc := 61) (pc' := 105) (hb hby d12_61) (by decide) (by decide) (by decide) ?_
        show own_G p e below s _ _ _ (T31.setTop (mkF m 105 #[.val (.ref x), .val (.ref y), .val (.int (0 : Int32)), .val (.int (2 : Int32))] []))
        refine own_go (fun _ kk_ => XS.iinc X31.here hx rfl (hb hby d12_105) rfl (l' := #[.val (.ref x), .val (.ref y), .val (.int (1 : Int32)), .val (.int (2 : Int32))]) rfl kk_) ?_
        show own_G p e below s _ _ _ (T31.setTop (mkF m 108 #[.val (.ref x), .val (.ref y), .val (.int (1 : Int32)), .val (.int (2 : Int32))] []))
        refine own_go (fun _ kk_ => XS.goto X31.here hx rfl (pc0 := 108) (pc' := 46) rfl (hb hby d12_108) (by decide) (by decide) kk_) ?_
        show own_G p e below s _ _ _ (T31.setTop (mkF m 46 #[.val (.ref x), .val (.ref y), .val (.int (1 : Int32)), .val (.int (2 : Int32))] []))
        refine own_go (fun _ kk_ => XS.iloadN X31.here hx rfl (hb hby d12_46) rfl kk_) ?_
        show own_G p e below s _ _ _ (T31.setTop (mkF m 47 #[.val (.ref x), .val (.ref y), .val (.int (1 : Int32)), .val (.int (2 : Int32))] [(.int (1 : Int32))]))
        refine own_go (fun _ kk_ => XS.aloadN X31.here hx rfl (hb hby d12_47) rfl rfl kk_) ?_
        show own_G p e below s _ _ _ (T31.setTop (mkF m 48 #[.val (.ref x), .val (.ref y), .val (.int (1 : Int32)), .val (.int (2 : Int32))] [(.ref x), (.int (1 : Int32))]))
        obtain ⟨T32, X32, e32, st32⟩ := getF X31 hx hZ hown (host := "") (Or.inl (hw _ (List.mem_of_getElem? (i := 80) rfl))) Via.refl e31 F_touched (g := (mkF m 48 #[.val (.ref x), .val (.ref y), .val (.int (1 : Int32)), .val (.int (2 : Int32))] [(.ref x), (.int (1 : Int32))])) rfl rfl (hb hby d12_48)
        refine own_go st32 ?_
        show own_G p e below s _ _ _ (T32.setTop (mkF m 51 #[.val (.ref x), .val (.ref y), .val (.int (1 : Int32)), .val (.int (2 : Int32))] [(.int (2 : Int32)), (.int (1 : Int32))]))
        refine own_ic_geN X32 hx (pc := 51) (hb hby d12_51) (by decide) ?_
        show own_G p e below s _ _ _ (T32.setTop (mkF m 54 #[.val (.ref x), .val (.ref y), .val (.int (1 : Int32)), .val (.int (2 : Int32))] []))
        refine own_go (fun _ kk_ => XS.iconst X32.here hx rfl (hb hby d12_54) kk_) ?_
        show own_G p e below s _ _ _ (T32.setTop (mkF m 55 #[.val (.ref x), .val (.ref y), .val (.int (1 : Int32)), .val (.int (2 : Int32))] [(.int (0 : Int32))]))
        refine own_go (fun _ kk_ => XS.istoreN X32.here hx rfl (hb hby d12_55) rfl (l' := #[.val (.ref x), .val (.ref y), .val (.int (1 : Int32)), .val (.int (0 : Int32))]) rfl kk_) ?_
        show own_G p e below s _ _ _ (T32.setTop (mkF m 56 #[.val (.ref x), .val (.ref y), .val (.int (1 : Int32)), .val (.int (0 : Int32))] []))
        refine own_go (fun _ kk_ => XS.iloadN X32.here hx rfl (hb hby d12_56) rfl kk_) ?_
        show own_G p e below s _ _ _ (T32.setTop (mkF m 57 #[.val (.ref x), .val (.ref y), .val (.int (1 : Int32)), .val (.int (0 : Int32))] [(.int (0 : Int32))]))
        refine own_go (fun _ kk_ => XS.aloadN X32.here hx rfl (hb hby d12_57) rfl rfl kk_) ?_
        show own_G p e below s _ _ _ (T32.setTop (mkF m 58 #[.val (.ref x), .val (.ref y), .val (.int (1 : Int32)), .val (.int (0 : Int32))] [(.ref y), (.int (0 : Int32))]))
        obtain ⟨T33, X33, e33, st33⟩ := getF X32 hx hZ hown (host := "") (Or.inl (hw _ (List.mem_of_getElem? (i := 80) rfl))) Via.refl e32 F_touched' (g := (mkF m 58 #[.val (.ref x), .val (.ref y), .val (.int (1 : Int32)), .val (.int (0 : Int32))] [(.ref y), (.int (0 : Int32))])) rfl rfl (hb hby d12_58)
        refine own_go st33 ?_
        show own_G p e below s _ _ _ (T33.setTop (mkF m 61 #[.val (.ref x), .val (.ref y), .val (.int (1 : Int32)), .val (.int (0 : Int32))] [(.int (2 : Int32)), (.int (0 : Int32))]))
        refine own_ic_geN X33 hx (pc := 61) (hb hby d12_61) (by decide) ?_
        show own_G p e below s _ _ _ (T33.setTop (mkF m 64 #[.val (.ref x), .val (.ref y), .val (.int (1 : Int32)), .val (.int (0 : Int32))] []))
        refine own_go (fun _ kk_ => XS.aloadN X33.here hx rfl (hb hby d12_64) rfl rfl kk_) ?_
        show own_G p e below s _ _ _ (T33.setTop (mkF m 65 #[.val (.ref x), .val (.ref y), .val (.int (1 : Int32)), .val (.int (0 : Int32))] [(.ref x)]))
        obtain ⟨T34, X34, e34, st34⟩ := getF X33 hx hZ hown (host := "") (Or.inl (hw _ (List.mem_of_getElem? (i := 41) rfl))) Via.refl e33 F_cells (g := (mkF m 65 #[.val (.ref x), .val (.ref y), .val (.int (1 : Int32)), .val (.int (0 : Int32))] [(.ref x)])) rfl rfl (hb hby d12_65)
        refine own_go st34 ?_
        show own_G p e below s _ _ _ (T34.setTop (mkF m 68 #[.val (.ref x), .val (.ref y), .val (.int (1 : Int32)), .val (.int (0 : Int32))] [(.ref ca)]))
        refine own_go (fun _ kk_ => XS.iloadN X34.here hx rfl (hb hby d12_68) rfl kk_) ?_
        show own_G p e below s _ _ _ (T34.setTop (mkF m 69 #[.val (.ref x), .val (.ref y), .val (.int (1 : Int32)), .val (.int (0 : Int32))] [(.int (1 : Int32)), (.ref ca)]))
        have Vc35 := V_c
        obtain ⟨cl35, Ar35, q35, S35, M35, H35, G35⟩ := Vc35
        have hin35 := inb_of (j := (1 : Int32)) S35 ⟨(by decide), (by decide)⟩
        have hat35 := H35.at hin35 (v := (.int c1)) rfl
        refine own_go (X34.iaload hx (j := (1 : Int32)) (v := (.int c1)) (by rw [e34]; exact Ar35.1) (State.isArrayOf_alike hZ.alike Ar35.2.1) Ar35.2.2 hin35 hat35 (g := (mkF m 69 #[.val (.ref x), .val (.ref y), .val (.int (1 : Int32)), .val (.int (0 : Int32))] [(.int (1 : Int32)), (.ref ca)])) rfl rfl (hb hby d12_69)) ?_
        show own_G p e below s _ _ _ (T34.setTop (mkF m 70 #[.val (.ref x), .val (.ref y), .val (.int (1 : Int32)), .val (.int (0 : Int32))] [(.int c1)]))
        refine own_go (fun _ kk_ => XS.aloadN X34.here hx rfl (hb hby d12_70) rfl rfl kk_) ?_
        show own_G p e below s _ _ _ (T34.setTop (mkF m 71 #[.val (.ref x), .val (.ref y), .val (.int (1 : Int32)), .val (.int (0 : Int32))] [(.ref y), (.int c1)]))
        obtain ⟨T36, X36, e36, st36⟩ := getF X34 hx hZ hown (host := "") (Or.inl (hw _ (List.mem_of_getElem? (i := 41) rfl))) Via.refl e34 F_cells' (g := (mkF m 71 #[.val (.ref x), .val (.ref y), .val (.int (1 : Int32)), .val (.int (0 : Int32))] [(.ref y), (.int c1)])) rfl rfl (hb hby d12_71)
        refine own_go st36 ?_
        show own_G p e below s _ _ _ (T36.setTop (mkF m 74 #[.val (.ref x), .val (.ref y), .val (.int (1 : Int32)), .val (.int (0 : Int32))] [(.ref da), (.int c1)]))
        refine own_go (fun _ kk_ => XS.iloadN X36.here hx rfl (hb hby d12_74) rfl kk_) ?_
        show own_G p e below s _ _ _ (T36.setTop (mkF m 75 #[.val (.ref x), .val (.ref y), .val (.int (1 : Int32)), .val (.int (0 : Int32))] [(.int (0 : Int32)), (.ref da), (.int c1)]))
        have Vc37 := V_c'
        obtain ⟨cl37, Ar37, q37, S37, M37, H37, G37⟩ := Vc37
        have hin37 := inb_of (j := (0 : Int32)) S37 ⟨(by decide), (by decide)⟩
        have hat37 := H37.at hin37 (v := (.int d0)) rfl
        refine own_go (X36.iaload hx (j := (0 : Int32)) (v := (.int d0)) (by rw [e36]; exact Ar37.1) (State.isArrayOf_alike hZ.alike Ar37.2.1) Ar37.2.2 hin37 hat37 (g := (mkF m 75 #[.val (.ref x), .val (.ref y), .val (.int (1 : Int32)), .val (.int (0 : Int32))] [(.int (0 : Int32)), (.ref da), (.int c1)])) rfl rfl (hb hby d12_75)) ?_
        show own_G p e below s _ _ _ (T36.setTop (mkF m 76 #[.val (.ref x), .val (.ref y), .val (.int (1 : Int32)), .val (.int (0 : Int32))] [(.int d0), (.int c1)]))
        refine own_ic_ne X36 hx (pc := 76) (pc' := 99) (hb hby d12_76) (by decide) (by decide) (fun hc76 => ?_) (fun hc76 => ?_)
        · exact J30 _ _ (X36.more (by decide) (by decide)) N20 e36 (fun q => hc76 q.1)
        · show own_G p e below s _ _ _ (T36.setTop (mkF m 79 #[.val (.ref x), .val (.ref y), .val (.int (1 : Int32)), .val (.int (0 : Int32))] []))
          refine own_go (fun _ kk_ => XS.aloadN X36.here hx rfl (hb hby d12_79) rfl rfl kk_) ?_
          show own_G p e below s _ _ _ (T36.setTop (mkF m 80 #[.val (.ref x), .val (.ref y), .val (.int (1 : Int32)), .val (.int (0 : Int32))] [(.ref x)]))
          obtain ⟨T38, X38, e38, st38⟩ := getF X36 hx hZ hown (host := "") (Or.inl (hw _ (List.mem_of_getElem? (i := 44) rfl))) Via.refl e36 F_writes (g := (mkF m 80 #[.val (.ref x), .val (.ref y), .val (.int (1 : Int32)), .val (.int (0 : Int32))] [(.ref x)])) rfl rfl (hb hby d12_80)
          refine own_go st38 ?_
          show own_G p e below s _ _ _ (T38.setTop (mkF m 83 #[.val (.ref x), .val (.ref y), .val (.int (1 : Int32)), .val (.int (0 : Int32))] [(.ref wa)]))
          refine own_go (fun _ kk_ => XS.iloadN X38.here hx rfl (hb hby d12_83) rfl kk_) ?_
          show own_G p e below s _ _ _ (T38.setTop (mkF m 84 #[.val (.ref x), .val (.ref y), .val (.int (1 : Int32)), .val (.int (0 : Int32))] [(.int (1 : Int32)), (.ref wa)]))
          have Vc39 := V_w
          obtain ⟨cl39, Ar39, q39, S39, M39, H39, G39⟩ := Vc39
          have hin39 := inb_of (j := (1 : Int32)) S39 ⟨(by decide), (by decide)⟩
          have hat39 := H39.at hin39 (v := (.int w1)) rfl
          refine own_go (X38.baloadBooleans hx (j := (1 : Int32)) (v := (.int w1)) (by rw [e38]; exact Ar39.1) (State.isArrayOf_alike hZ.alike Ar39.2.1) Ar39.2.2 hin39 hat39 (g := (mkF m 84 #[.val (.ref x), .val (.ref y), .val (.int (1 : Int32)), .val (.int (0 : Int32))] [(.int (1 : Int32)), (.ref wa)])) rfl rfl (hb hby d12_84)) ?_
          show own_G p e below s _ _ _ (T38.setTop (mkF m 85 #[.val (.ref x), .val (.ref y), .val (.int (1 : Int32)), .val (.int (0 : Int32))] [(.int w1)]))
          refine own_if_ne X38 hx (pc := 85) (pc' := 97) (hb hby d12_85) (by decide) (by decide) (fun hc85 => ?_) (fun hc85 => ?_)
          · show own_G p e below s _ _ _ (T38.setTop (mkF m 97 #[.val (.ref x), .val (.ref y), .val (.int (1 : Int32)), .val (.int (0 : Int32))] []))
            refine own_go (fun _ kk_ => XS.iconst X38.here hx rfl (hb hby d12_97) kk_) ?_
            show own_G p e below s _ _ _ (T38.setTop (mkF m 98 #[.val (.ref x), .val (.ref y), .val (.int (1 : Int32)), .val (.int (0 : Int32))] [(.int (1 : Int32))]))
            exact own_retN (t := .boolean) (ht := by simp) X38 hx Bd.returns (BodyLoose.notSynchronized Bd) (hb hby d12_98) e38 ⟨_, rfl, N20, rfl, Or.inl ⟨rfl, Or.inr (Or.inr (Or.inr (Or.inr (Or.inr (Or.inr (Or.inl ⟨by decide, by decide, ⟨hc76, Or.inl hc85⟩⟩))))))⟩⟩ (by decide) (by decide)
          · show own_G p e below s _ _ _ (T38.setTop (mkF m 88 #[.val (.ref x), .val (.ref y), .val (.int (1 : Int32)), .val (.int (0 : Int32))] []))
            refine own_go (fun _ kk_ => XS.aloadN X38.here hx rfl (hb hby d12_88) rfl rfl kk_) ?_
            show own_G p e below s _ _ _ (T38.setTop (mkF m 89 #[.val (.ref x), .val (.ref y), .val (.int (1 : Int32)), .val (.int (0 : Int32))] [(.ref y)]))
            obtain ⟨T40, X40, e40, st40⟩ := getF X38 hx hZ hown (host := "") (Or.inl (hw _ (List.mem_of_getElem? (i := 44) rfl))) Via.refl e38 F_writes' (g := (mkF m 89 #[.val (.ref x), .val (.ref y), .val (.int (1 : Int32)), .val (.int (0 : Int32))] [(.ref y)])) rfl rfl (hb hby d12_89)
            refine own_go st40 ?_
            show own_G p e below s _ _ _ (T40.setTop (mkF m 92 #[.val (.ref x), .val (.ref y), .val (.int (1 : Int32)), .val (.int (0 : Int32))] [(.ref va)]))
            refine own_go (fun _ kk_ => XS.iloadN X40.here hx rfl (hb hby d12_92) rfl kk_) ?_
            show own_G p e below s _ _ _ (T40.setTop (mkF m 93 #[.val (.ref x), .val (.ref y), .val (.int (1 : Int32)), .val (.int (0 : Int32))] [(.int (0 : Int32)), (.ref va)]))
            have Vc41 := V_w'
            obtain ⟨cl41, Ar41, q41, S41, M41, H41, G41⟩ := Vc41
            have hin41 := inb_of (j := (0 : Int32)) S41 ⟨(by decide), (by decide)⟩
            have hat41 := H41.at hin41 (v := (.int v0)) rfl
            refine own_go (X40.baloadBooleans hx (j := (0 : Int32)) (v := (.int v0)) (by rw [e40]; exact Ar41.1) (State.isArrayOf_alike hZ.alike Ar41.2.1) Ar41.2.2 hin41 hat41 (g := (mkF m 93 #[.val (.ref x), .val (.ref y), .val (.int (1 : Int32)), .val (.int (0 : Int32))] [(.int (0 : Int32)), (.ref va)])) rfl rfl (hb hby d12_93)) ?_
            show own_G p e below s _ _ _ (T40.setTop (mkF m 94 #[.val (.ref x), .val (.ref y), .val (.int (1 : Int32)), .val (.int (0 : Int32))] [(.int v0)]))
            refine own_if_eq X40 hx (pc := 94) (pc' := 99) (hb hby d12_94) (by decide) (by decide) (fun hc94 => ?_) (fun hc94 => ?_)
            · exact J30 _ _ (X40.more (by decide) (by decide)) N20 e40 (fun q => q.2.elim (fun z => z hc85) (fun z => z hc94))
            · show own_G p e below s _ _ _ (T40.setTop (mkF m 97 #[.val (.ref x), .val (.ref y), .val (.int (1 : Int32)), .val (.int (0 : Int32))] []))
              refine own_go (fun _ kk_ => XS.iconst X40.here hx rfl (hb hby d12_97) kk_) ?_
              show own_G p e below s _ _ _ (T40.setTop (mkF m 98 #[.val (.ref x), .val (.ref y), .val (.int (1 : Int32)), .val (.int (0 : Int32))] [(.int (1 : Int32))]))
              exact own_retN (t := .boolean) (ht := by simp) X40 hx Bd.returns (BodyLoose.notSynchronized Bd) (hb hby d12_98) e40 ⟨_, rfl, N20, rfl, Or.inl ⟨rfl, Or.inr (Or.inr (Or.inr (Or.inr (Or.inr (Or.inr (Or.inl ⟨by decide, by decide, ⟨hc76, Or.inr hc94⟩⟩))))))⟩⟩ (by decide) (by decide)
      intro T30 lo30 X30 N30 e30 hn10
      show own_G p e below s _ _ _ (T30.setTop (mkF m 99 #[.val (.ref x), .val (.ref y), .val (.int (1 : Int32)), .val (.int (0 : Int32))] []))
      suffices J42 : ∀ (T42 : State) (lo42 : List Loc), Stand p l e ({ frames := 0, cells := 0, slots := 0, locals := 0 } : Room) s m #[(.ref x), (.ref y)] below meth c T42 lo42 0 0 → Fr n0 lo42 → T42.heap = h0 → (¬ own_cf c1 w1 d1 v1) → own_G p e below s (Q_rmDp22 Z x ca wa y da va kc kw kd kv c0 c1 w0 w1 b1 r1 y1 d0 d1 v0 v1 b2 r2 y2 h0 n0) ({ frames := 0, cells := 0, slots := 0, locals := 0 } : Room).cells ({ frames := 0, cells := 0, slots := 0, locals := 0 } : Room).slots (T42.setTop (mkF m 99 #[.val (.ref x), .val (.ref y), .val (.int (1 : Int32)), .val (.int (1 : Int32))] [])) by
        show own_G p e below s _ _ _ (T30.setTop (mkF m 99 #[.val (.ref x), .val (.ref y), .val (.int (1 : Int32)), .val (.int (0 : Int32))] []))
        refine own_go (fun _ kk_ => XS.iinc X30.here hx rfl (hb hby d12_99) rfl (l' := #[.val (.ref x), .val (.ref y), .val (.int (1 : Int32)), .val (.int (1 : Int32))]) rfl kk_) ?_
        show own_G p e below s _ _ _ (T30.setTop (mkF m 102 #[.val (.ref x), .val (.ref y), .val (.int (1 : Int32)), .val (.int (1 : Int32))] []))
        refine own_go (fun _ kk_ => XS.goto X30.here hx rfl (pc0 := 102) (pc' := 56) rfl (hb hby d12_102) (by decide) (by decide) kk_) ?_
        show own_G p e below s _ _ _ (T30.setTop (mkF m 56 #[.val (.ref x), .val (.ref y), .val (.int (1 : Int32)), .val (.int (1 : Int32))] []))
        refine own_go (fun _ kk_ => XS.iloadN X30.here hx rfl (hb hby d12_56) rfl kk_) ?_
        show own_G p e below s _ _ _ (T30.setTop (mkF m 57 #[.val (.ref x), .val (.ref y), .val (.int (1 : Int32)), .val (.int (1 : Int32))] [(.int (1 : Int32))]))
        refine own_go (fun _ kk_ => XS.aloadN X30.here hx rfl (hb hby d12_57) rfl rfl kk_) ?_
        show own_G p e below s _ _ _ (T30.setTop (mkF m 58 #[.val (.ref x), .val (.ref y), .val (.int (1 : Int32)), .val (.int (1 : Int32))] [(.ref y), (.int (1 : Int32))]))
        obtain ⟨T43, X43, e43, st43⟩ := getF X30 hx hZ hown (host := "") (Or.inl (hw _ (List.mem_of_getElem? (i := 80) rfl))) Via.refl e30 F_touched' (g := (mkF m 58 #[.val (.ref x), .val (.ref y), .val (.int (1 : Int32)), .val (.int (1 : Int32))] [(.ref y), (.int (1 : Int32))])) rfl rfl (hb hby d12_58)
        refine own_go st43 ?_
        show own_G p e below s _ _ _ (T43.setTop (mkF m 61 #[.val (.ref x), .val (.ref y), .val (.int (1 : Int32)), .val (.int (1 : Int32))] [(.int (2 : Int32)), (.int (1 : Int32))]))
        refine own_ic_geN X43 hx (pc := 61) (hb hby d12_61) (by decide) ?_
        show own_G p e below s _ _ _ (T43.setTop (mkF m 64 #[.val (.ref x), .val (.ref y), .val (.int (1 : Int32)), .val (.int (1 : Int32))] []))
        refine own_go (fun _ kk_ => XS.aloadN X43.here hx rfl (hb hby d12_64) rfl rfl kk_) ?_
        show own_G p e below s _ _ _ (T43.setTop (mkF m 65 #[.val (.ref x), .val (.ref y), .val (.int (1 : Int32)), .val (.int (1 : Int32))] [(.ref x)]))
        obtain ⟨T44, X44, e44, st44⟩ := getF X43 hx hZ hown (host := "") (Or.inl (hw _ (List.mem_of_getElem? (i := 41) rfl))) Via.refl e43 F_cells (g := (mkF m 65 #[.val (.ref x), .val (.ref y), .val (.int (1 : Int32)), .val (.int (1 : Int32))] [(.ref x)])) rfl rfl (hb hby d12_65)
        refine own_go st44 ?_
        show own_G p e below s _ _ _ (T44.setTop (mkF m 68 #[.val (.ref x), .val (.ref y), .val (.int (1 : Int32)), .val (.int (1 : Int32))] [(.ref ca)]))
        refine own_go (fun _ kk_ => XS.iloadN X44.here hx rfl (hb hby d12_68) rfl kk_) ?_
        show own_G p e below s _ _ _ (T44.setTop (mkF m 69 #[.val (.ref x), .val (.ref y), .val (.int (1 : Int32)), .val (.int (1 : Int32))] [(.int (1 : Int32)), (.ref ca)]))
        have Vc45 := V_c
        obtain ⟨cl45, Ar45, q45, S45, M45, H45, G45⟩ := Vc45
        have hin45 := inb_of (j := (1 : Int32)) S45 ⟨(by decide), (by decide)⟩
        have hat45 := H45.at hin45 (v := (.int c1)) rfl
        refine own_go (X44.iaload hx (j := (1 : Int32)) (v := (.int c1)) (by rw [e44]; exact Ar45.1) (State.isArrayOf_alike hZ.alike Ar45.2.1) Ar45.2.2 hin45 hat45 (g := (mkF m 69 #[.val (.ref x), .val (.ref y), .val (.int (1 : Int32)), .val (.int (1 : Int32))] [(.int (1 : Int32)), (.ref ca)])) rfl rfl (hb hby d12_69)) ?_
        show own_G p e below s _ _ _ (T44.setTop (mkF m 70 #[.val (.ref x), .val (.ref y), .val (.int (1 : Int32)), .val (.int (1 : Int32))] [(.int c1)]))
        refine own_go (fun _ kk_ => XS.aloadN X44.here hx rfl (hb hby d12_70) rfl rfl kk_) ?_
        show own_G p e below s _ _ _ (T44.setTop (mkF m 71 #[.val (.ref x), .val (.ref y), .val (.int (1 : Int32)), .val (.int (1 : Int32))] [(.ref y), (.int c1)]))
        obtain ⟨T46, X46, e46, st46⟩ := getF X44 hx hZ hown (host := "") (Or.inl (hw _ (List.mem_of_getElem? (i := 41) rfl))) Via.refl e44 F_cells' (g := (mkF m 71 #[.val (.ref x), .val (.ref y), .val (.int (1 : Int32)), .val (.int (1 : Int32))] [(.ref y), (.int c1)])) rfl rfl (hb hby d12_71)
        refine own_go st46 ?_
        show own_G p e below s _ _ _ (T46.setTop (mkF m 74 #[.val (.ref x), .val (.ref y), .val (.int (1 : Int32)), .val (.int (1 : Int32))] [(.ref da), (.int c1)]))
        refine own_go (fun _ kk_ => XS.iloadN X46.here hx rfl (hb hby d12_74) rfl kk_) ?_
        show own_G p e below s _ _ _ (T46.setTop (mkF m 75 #[.val (.ref x), .val (.ref y), .val (.int (1 : Int32)), .val (.int (1 : Int32))] [(.int (1 : Int32)), (.ref da), (.int c1)]))
        have Vc47 := V_c'
        obtain ⟨cl47, Ar47, q47, S47, M47, H47, G47⟩ := Vc47
        have hin47 := inb_of (j := (1 : Int32)) S47 ⟨(by decide), (by decide)⟩
        have hat47 := H47.at hin47 (v := (.int d1)) rfl
        refine own_go (X46.iaload hx (j := (1 : Int32)) (v := (.int d1)) (by rw [e46]; exact Ar47.1) (State.isArrayOf_alike hZ.alike Ar47.2.1) Ar47.2.2 hin47 hat47 (g := (mkF m 75 #[.val (.ref x), .val (.ref y), .val (.int (1 : Int32)), .val (.int (1 : Int32))] [(.int (1 : Int32)), (.ref da), (.int c1)])) rfl rfl (hb hby d12_75)) ?_
        show own_G p e below s _ _ _ (T46.setTop (mkF m 76 #[.val (.ref x), .val (.ref y), .val (.int (1 : Int32)), .val (.int (1 : Int32))] [(.int d1), (.int c1)]))
        refine own_ic_ne X46 hx (pc := 76) (pc' := 99) (hb hby d12_76) (by decide) (by decide) (fun hc76 => ?_) (fun hc76 => ?_)
        · exact J42 _ _ (X46.more (by decide) (by decide)) N30 e46 (fun q => hc76 q.1)
        · show own_G p e below s _ _ _ (T46.setTop (mkF m 79 #[.val (.ref x), .val (.ref y), .val (.int (1 : Int32)), .val (.int (1 : Int32))] []))
          refine own_go (fun _ kk_ => XS.aloadN X46.here hx rfl (hb hby d12_79) rfl rfl kk_) ?_
          show own_G p e below s _ _ _ (T46.setTop (mkF m 80 #[.val (.ref x), .val (.ref y), .val (.int (1 : Int32)), .val (.int (1 : Int32))] [(.ref x)]))
          obtain ⟨T48, X48, e48, st48⟩ := getF X46 hx hZ hown (host := "") (Or.inl (hw _ (List.mem_of_getElem? (i := 44) rfl))) Via.refl e46 F_writes (g := (mkF m 80 #[.val (.ref x), .val (.ref y), .val (.int (1 : Int32)), .val (.int (1 : Int32))] [(.ref x)])) rfl rfl (hb hby d12_80)
          refine own_go st48 ?_
          show own_G p e below s _ _ _ (T48.setTop (mkF m 83 #[.val (.ref x), .val (.ref y), .val (.int (1 : Int32)), .val (.int (1 : Int32))] [(.ref wa)]))
          refine own_go (fun _ kk_ => XS.iloadN X48.here hx rfl (hb hby d12_83) rfl kk_) ?_
          show own_G p e below s _ _ _ (T48.setTop (mkF m 84 #[.val (.ref x), .val (.ref y), .val (.int (1 : Int32)), .val (.int (1 : Int32))] [(.int (1 : Int32)), (.ref wa)]))
          have Vc49 := V_w
          obtain ⟨cl49, Ar49, q49, S49, M49, H49, G49⟩ := Vc49
          have hin49 := inb_of (j := (1 : Int32)) S49 ⟨(by decide), (by decide)⟩
          have hat49 := H49.at hin49 (v := (.int w1)) rfl
          refine own_go (X48.baloadBooleans hx (j := (1 : Int32)) (v := (.int w1)) (by rw [e48]; exact Ar49.1) (State.isArrayOf_alike hZ.alike Ar49.2.1) Ar49.2.2 hin49 hat49 (g := (mkF m 84 #[.val (.ref x), .val (.ref y), .val (.int (1 : Int32)), .val (.int (1 : Int32))] [(.int (1 : Int32)), (.ref wa)])) rfl rfl (hb hby d12_84)) ?_
          show own_G p e below s _ _ _ (T48.setTop (mkF m 85 #[.val (.ref x), .val (.ref y), .val (.int (1 : Int32)), .val (.int (1 : Int32))] [(.int w1)]))
          refine own_if_ne X48 hx (pc := 85) (pc' := 97) (hb hby d12_85) (by decide) (by decide) (fun hc85 => ?_) (fun hc85 => ?_)
          · show own_G p e below s _ _ _ (T48.setTop (mkF m 97 #[.val (.ref x), .val (.ref y), .val (.int (1 : Int32)), .val (.int (1 : Int32))] []))
            refine own_go (fun _ kk_ => XS.iconst X48.here hx rfl (hb hby d12_97) kk_) ?_
            show own_G p e below s _ _ _ (T48.setTop (mkF m 98 #[.val (.ref x), .val (.ref y), .val (.int (1 : Int32)), .val (.int (1 : Int32))] [(.int (1 : Int32))]))
            exact own_retN (t := .boolean) (ht := by simp) X48 hx Bd.returns (BodyLoose.notSynchronized Bd) (hb hby d12_98) e48 ⟨_, rfl, N30, rfl, Or.inl ⟨rfl, Or.inr (Or.inr (Or.inr (Or.inr (Or.inr (Or.inr (Or.inr ⟨by decide, by decide, ⟨hc76, Or.inl hc85⟩⟩))))))⟩⟩ (by decide) (by decide)
          · show own_G p e below s _ _ _ (T48.setTop (mkF m 88 #[.val (.ref x), .val (.ref y), .val (.int (1 : Int32)), .val (.int (1 : Int32))] []))
            refine own_go (fun _ kk_ => XS.aloadN X48.here hx rfl (hb hby d12_88) rfl rfl kk_) ?_
            show own_G p e below s _ _ _ (T48.setTop (mkF m 89 #[.val (.ref x), .val (.ref y), .val (.int (1 : Int32)), .val (.int (1 : Int32))] [(.ref y)]))
            obtain ⟨T50, X50, e50, st50⟩ := getF X48 hx hZ hown (host := "") (Or.inl (hw _ (List.mem_of_getElem? (i := 44) rfl))) Via.refl e48 F_writes' (g := (mkF m 89 #[.val (.ref x), .val (.ref y), .val (.int (1 : Int32)), .val (.int (1 : Int32))] [(.ref y)])) rfl rfl (hb hby d12_89)
            refine own_go st50 ?_
            show own_G p e below s _ _ _ (T50.setTop (mkF m 92 #[.val (.ref x), .val (.ref y), .val (.int (1 : Int32)), .val (.int (1 : Int32))] [(.ref va)]))
            refine own_go (fun _ kk_ => XS.iloadN X50.here hx rfl (hb hby d12_92) rfl kk_) ?_
            show own_G p e below s _ _ _ (T50.setTop (mkF m 93 #[.val (.ref x), .val (.ref y), .val (.int (1 : Int32)), .val (.int (1 : Int32))] [(.int (1 : Int32)), (.ref va)]))
            have Vc51 := V_w'
            obtain ⟨cl51, Ar51, q51, S51, M51, H51, G51⟩ := Vc51
            have hin51 := inb_of (j := (1 : Int32)) S51 ⟨(by decide), (by decide)⟩
            have hat51 := H51.at hin51 (v := (.int v1)) rfl
            refine own_go (X50.baloadBooleans hx (j := (1 : Int32)) (v := (.int v1)) (by rw [e50]; exact Ar51.1) (State.isArrayOf_alike hZ.alike Ar51.2.1) Ar51.2.2 hin51 hat51 (g := (mkF m 93 #[.val (.ref x), .val (.ref y), .val (.int (1 : Int32)), .val (.int (1 : Int32))] [(.int (1 : Int32)), (.ref va)])) rfl rfl (hb hby d12_93)) ?_
            show own_G p e below s _ _ _ (T50.setTop (mkF m 94 #[.val (.ref x), .val (.ref y), .val (.int (1 : Int32)), .val (.int (1 : Int32))] [(.int v1)]))
            refine own_if_eq X50 hx (pc := 94) (pc' := 99) (hb hby d12_94) (by decide) (by decide) (fun hc94 => ?_) (fun hc94 => ?_)
            · exact J42 _ _ (X50.more (by decide) (by decide)) N30 e50 (fun q => q.2.elim (fun z => z hc85) (fun z => z hc94))
            · show own_G p e below s _ _ _ (T50.setTop (mkF m 97 #[.val (.ref x), .val (.ref y), .val (.int (1 : Int32)), .val (.int (1 : Int32))] []))
              refine own_go (fun _ kk_ => XS.iconst X50.here hx rfl (hb hby d12_97) kk_) ?_
              show own_G p e below s _ _ _ (T50.setTop (mkF m 98 #[.val (.ref x), .val (.ref y), .val (.int (1 : Int32)), .val (.int (1 : Int32))] [(.int (1 : Int32))]))
              exact own_retN (t := .boolean) (ht := by simp) X50 hx Bd.returns (BodyLoose.notSynchronized Bd) (hb hby d12_98) e50 ⟨_, rfl, N30, rfl, Or.inl ⟨rfl, Or.inr (Or.inr (Or.inr (Or.inr (Or.inr (Or.inr (Or.inr ⟨by decide, by decide, ⟨hc76, Or.inr hc94⟩⟩))))))⟩⟩ (by decide) (by decide)
      intro T42 lo42 X42 N42 e42 hn11
      show own_G p e below s _ _ _ (T42.setTop (mkF m 99 #[.val (.ref x), .val (.ref y), .val (.int (1 : Int32)), .val (.int (1 : Int32))] []))
      show own_G p e below s _ _ _ (T42.setTop (mkF m 99 #[.val (.ref x), .val (.ref y), .val (.int (1 : Int32)), .val (.int (1 : Int32))] []))
      refine own_go (fun _ kk_ => XS.iinc X42.here hx rfl (hb hby d12_99) rfl (l' := #[.val (.ref x), .val (.ref y), .val (.int (1 : Int32)), .val (.int (2 : Int32))]) rfl kk_) ?_
      show own_G p e below s _ _ _ (T42.setTop (mkF m 102 #[.val (.ref x), .val (.ref y), .val (.int (1 : Int32)), .val (.int (2 : Int32))] []))
      refine own_go (fun _ kk_ => XS.goto X42.here hx rfl (pc0 := 102) (pc' := 56) rfl (hb hby d12_102) (by decide) (by decide) kk_) ?_
      show own_G p e below s _ _ _ (T42.setTop (mkF m 56 #[.val (.ref x), .val (.ref y), .val (.int (1 : Int32)), .val (.int (2 : Int32))] []))
      refine own_go (fun _ kk_ => XS.iloadN X42.here hx rfl (hb hby d12_56) rfl kk_) ?_
      show own_G p e below s _ _ _ (T42.setTop (mkF m 57 #[.val (.ref x), .val (.ref y), .val (.int (1 : Int32)), .val (.int (2 : Int32))] [(.int (2 : Int32))]))
      refine own_go (fun _ kk_ => XS.aloadN X42.here hx rfl (hb hby d12_57) rfl rfl kk_) ?_
      show own_G p e below s _ _ _ (T42.setTop (mkF m 58 #[.val (.ref x), .val (.ref y), .val (.int (1 : Int32)), .val (.int (2 : Int32))] [(.ref y), (.int (2 : Int32))]))
      obtain ⟨T52, X52, e52, st52⟩ := getF X42 hx hZ hown (host := "") (Or.inl (hw _ (List.mem_of_getElem? (i := 80) rfl))) Via.refl e42 F_touched' (g := (mkF m 58 #[.val (.ref x), .val (.ref y), .val (.int (1 : Int32)), .val (.int (2 : Int32))] [(.ref y), (.int (2 : Int32))])) rfl rfl (hb hby d12_58)
      refine own_go st52 ?_
      show own_G p e below s _ _ _ (T52.setTop (mkF m 61 #[.val (.ref x), .val (.ref y), .val (.int (1 : Int32)), .val (.int (2 : Int32))] [(.int (2 : Int32)), (.int (2 : Int32))]))
      refine own_ic_geY X52 hx (pc := 61) (pc' := 105) (hb hby d12_61) (by decide) (by decide) (by decide) ?_
      show own_G p e below s _ _ _ (T52.setTop (mkF m 105 #[.val (.ref x), .val (.ref y), .val (.int (1 : Int32)), .val (.int (2 : Int32))] []))
      refine own_go (fun _ kk_ => XS.iinc X52.here hx rfl (hb hby d12_105) rfl (l' := #[.val (.ref x), .val (.ref y), .val (.int (2 : Int32)), .val (.int (2 : Int32))]) rfl kk_) ?_
      show own_G p e below s _ _ _ (T52.setTop (mkF m 108 #[.val (.ref x), .val (.ref y), .val (.int (2 : Int32)), .val (.int (2 : Int32))] []))
      refine own_go (fun _ kk_ => XS.goto X52.here hx rfl (pc0 := 108) (pc' := 46) rfl (hb hby d12_108) (by decide) (by decide) kk_) ?_
      show own_G p e below s _ _ _ (T52.setTop (mkF m 46 #[.val (.ref x), .val (.ref y), .val (.int (2 : Int32)), .val (.int (2 : Int32))] []))
      refine own_go (fun _ kk_ => XS.iloadN X52.here hx rfl (hb hby d12_46) rfl kk_) ?_
      show own_G p e below s _ _ _ (T52.setTop (mkF m 47 #[.val (.ref x), .val (.ref y), .val (.int (2 : Int32)), .val (.int (2 : Int32))] [(.int (2 : Int32))]))
      refine own_go (fun _ kk_ => XS.aloadN X52.here hx rfl (hb hby d12_47) rfl rfl kk_) ?_
      show own_G p e below s _ _ _ (T52.setTop (mkF m 48 #[.val (.ref x), .val (.ref y), .val (.int (2 : Int32)), .val (.int (2 : Int32))] [(.ref x), (.int (2 : Int32))]))
      obtain ⟨T53, X53, e53, st53⟩ := getF X52 hx hZ hown (host := "") (Or.inl (hw _ (List.mem_of_getElem? (i := 80) rfl))) Via.refl e52 F_touched (g := (mkF m 48 #[.val (.ref x), .val (.ref y), .val (.int (2 : Int32)), .val (.int (2 : Int32))] [(.ref x), (.int (2 : Int32))])) rfl rfl (hb hby d12_48)
      refine own_go st53 ?_
      show own_G p e below s _ _ _ (T53.setTop (mkF m 51 #[.val (.ref x), .val (.ref y), .val (.int (2 : Int32)), .val (.int (2 : Int32))] [(.int (2 : Int32)), (.int (2 : Int32))]))
      refine own_ic_geY X53 hx (pc := 51) (pc' := 111) (hb hby d12_51) (by decide) (by decide) (by decide) ?_
      show own_G p e below s _ _ _ (T53.setTop (mkF m 111 #[.val (.ref x), .val (.ref y), .val (.int (2 : Int32)), .val (.int (2 : Int32))] []))
      refine own_go (fun _ kk_ => XS.iconst X53.here hx rfl (hb hby d12_111) kk_) ?_
      show own_G p e below s _ _ _ (T53.setTop (mkF m 112 #[.val (.ref x), .val (.ref y), .val (.int (2 : Int32)), .val (.int (2 : Int32))] [(.int (0 : Int32))]))
      exact own_retN (t := .boolean) (ht := by simp) X53 hx Bd.returns (BodyLoose.notSynchronized Bd) (hb hby d12_112) e53 ⟨_, rfl, N42, rfl, Or.inr ⟨rfl, own_Dno hc4 hc11 hbr hrb (fun q => q.elim (fun q => hn00 q.2.2) (fun q => q.elim (fun q => hn01 q.2.2) (fun q => q.elim (fun q => hn10 q.2.2) (fun q => hn11 q.2.2))))⟩⟩ (by decide) (by decide)
def Q_rmD (Z : State) (x ca wa y da va : Addr) (kc kw kd kv : ClassId) (c0 c1 w0 w1 b1 r1 e1 d0 d1 v0 v1 b2 r2 e2 : Int32) (t u : Nat) (h0 : Heap) (n0 : Nat) : Option Value → Heap → List Loc → Prop := fun v h L => ∃ B : Int32, v = some (.int B) ∧ Fr n0 L ∧ h = h0 ∧ ((B = 1 ∧ (own_D e1 e2 b1 r1 b2 r2 (own_C (Int32.ofNat t) (Int32.ofNat u) c0 c1 w0 w1 d0 d1 v0 v1))) ∨ (B = 0 ∧ ¬ (own_D e1 e2 b1 r1 b2 r2 (own_C (Int32.ofNat t) (Int32.ofNat u) c0 c1 w0 w1 d0 d1 v0 v1))))
theorem rmD (l : Launch) (Z : State) (a0 : Array Value) (hw : ∀ d ∈ tables_1, d.before a0 Z = true) (ws : List Jvm.Cond) (x ca wa y da va : Addr) (kc kw kd kv : ClassId) (c0 c1 w0 w1 b1 r1 e1 d0 d1 v0 v1 b2 r2 e2 : Int32) (t u : Nat) (h0 : Heap) (n0 : Nat) (Z0 : n0 ≤ h0.size) (ht : t ≤ 2) (hu : u ≤ 2) (FP : own_FP Z h0 x ca wa kc kw (Int32.ofNat t) c0 c1 w0 w1 b1 r1 e1) (FQ : own_FP Z h0 y da va kd kv (Int32.ofNat u) d0 d1 v0 v1 b2 r2 e2) :
    MetFree l (⟨"com/example/relyguard/relyguard/Footprint", "dependsOn", "(Lcom/example/relyguard/relyguard/Footprint;)Z"⟩ : MethodName) (head1 (Jvm.Cond.code (⟨"com/example/relyguard/relyguard/Footprint", "dependsOn", "(Lcom/example/relyguard/relyguard/Footprint;)Z"⟩ : MethodName) prog_47_method_13_code 4 (some .boolean) :: ws) ({ frames := 0, cells := 0, slots := 0, locals := 0 } : Room)) (fun as_ U => as_ = #[(.ref x), (.ref y)] ∧ Z.Warmed39 U.vm ∧ U.heap = h0) (fun _ _ _ _ _ => True) (fun _ U o U' => ∃ v L, o = .returned v ∧ (Q_rmD Z x ca wa y da va kc kw kd kv c0 c1 w0 w1 b1 r1 e1 d0 d1 v0 v1 b2 r2 e2 t u h0 n0) v U'.heap L ∧ FrameEnd U o U' L ({ frames := 0, cells := 0, slots := 0, locals := 0 } : Room).cells ({ frames := 0, cells := 0, slots := 0, locals := 0 } : Room).slots) := by
  rcases (by omega : t = 0 ∨ t = 1 ∨ t = 2) with rfl | rfl | rfl <;> rcases (by omega : u = 0 ∨ u = 1 ∨ u = 2) with rfl | rfl | rfl
  · exact rmDp00 l Z a0 hw ws x ca wa y da va kc kw kd kv c0 c1 w0 w1 b1 r1 e1 d0 d1 v0 v1 b2 r2 e2 h0 n0 Z0 FP FQ
  · exact rmDp01 l Z a0 hw ws x ca wa y da va kc kw kd kv c0 c1 w0 w1 b1 r1 e1 d0 d1 v0 v1 b2 r2 e2 h0 n0 Z0 FP FQ
  · exact rmDp02 l Z a0 hw ws x ca wa y da va kc kw kd kv c0 c1 w0 w1 b1 r1 e1 d0 d1 v0 v1 b2 r2 e2 h0 n0 Z0 FP FQ
  · exact rmDp10 l Z a0 hw ws x ca wa y da va kc kw kd kv c0 c1 w0 w1 b1 r1 e1 d0 d1 v0 v1 b2 r2 e2 h0 n0 Z0 FP FQ
  · exact rmDp11 l Z a0 hw ws x ca wa y da va kc kw kd kv c0 c1 w0 w1 b1 r1 e1 d0 d1 v0 v1 b2 r2 e2 h0 n0 Z0 FP FQ
  · exact rmDp12 l Z a0 hw ws x ca wa y da va kc kw kd kv c0 c1 w0 w1 b1 r1 e1 d0 d1 v0 v1 b2 r2 e2 h0 n0 Z0 FP FQ
  · exact rmDp20 l Z a0 hw ws x ca wa y da va kc kw kd kv c0 c1 w0 w1 b1 r1 e1 d0 d1 v0 v1 b2 r2 e2 h0 n0 Z0 FP FQ
  · exact rmDp21 l Z a0 hw ws x ca wa y da va kc kw kd kv c0 c1 w0 w1 b1 r1 e1 d0 d1 v0 v1 b2 r2 e2 h0 n0 Z0 FP FQ
  · exact rmDp22 l Z a0 hw ws x ca wa y da va kc kw kd kv c0 c1 w0 w1 b1 r1 e1 d0 d1 v0 v1 b2 r2 e2 h0 n0 Z0 FP FQ
theorem own_small {y : Int32} {d : Nat} (h0 : 0 ≤ y.toInt) (h1 : y.toInt < d) (hd : d ≤ 2147483648) : ∃ k, k < d ∧ y = Int32.ofNat k :=
  ⟨y.toInt.toNat, by omega, by
    apply Int32.toInt_inj.mp
    rw [Int32.toInt_ofNat_of_lt (by omega)]
    omega⟩
theorem own_rem3 (x : Int32) : ∃ k, k ≤ 2 ∧ (x &&& (3 : Int32)) % (3 : Int32) = Int32.ofNat k := by
  have e1 := c_mask x 3 2 (by decide) (by decide)
  have h0 : 0 ≤ (x &&& (3 : Int32)).toInt := by rw [e1]; exact Int.emod_nonneg _ (by decide)
  have e2 := (c_irem (x &&& 3) 3 3 (by decide)).1 h0
  obtain ⟨k, h1, h2⟩ := own_small (y := (x &&& (3 : Int32)) % (3 : Int32)) (d := 3) (by rw [e2]; exact Int.emod_nonneg _ (by decide)) (by rw [e2]; exact Int.emod_lt_of_pos _ (by decide)) (by omega)
  exact ⟨k, by omega, h2⟩
theorem own_lt0 {k : Nat} (h : k ≤ 2) : (Int32.ofNat k < 1 ↔ k < 1) ∧ (Int32.ofNat k < 2 ↔ k < 2) ∧ (0 < Int32.ofNat k ↔ 0 < k) ∧ (1 < Int32.ofNat k ↔ 1 < k) := by
  rcases (by omega : k = 0 ∨ k = 1 ∨ k = 2) with rfl | rfl | rfl <;> decide
theorem pd_3 : parseMethodDescriptor "(II)Z" = some ⟨[.int, .int], some .boolean⟩ := by decide +kernel
theorem pd_4 : parseMethodDescriptor "(IIII)I" = some ⟨[.int, .int, .int, .int], some .int⟩ := by decide +kernel
theorem pd_5 : parseMethodDescriptor "(IZ)V" = some ⟨[.int, .boolean], none⟩ := by decide +kernel
theorem pd_7 : parseMethodDescriptor "(IZIZ)Z" = some ⟨[.int, .boolean, .int, .boolean], some .boolean⟩ := by decide +kernel
theorem pd_6 : parseMethodDescriptor "(Lcom/example/relyguard/relyguard/Footprint;)Z" = some ⟨[(.object "com/example/relyguard/relyguard/Footprint")], some .boolean⟩ := by decide +kernel
theorem ef_rm0 (m : MethodId) (x0 : Int32) (x1 : Int32) (x2 : Int32) (x3 : Int32) (x4 : Int32) (x5 : Int32) : entryFrame m #[(.int x0), (.int x1), (.int x2), (.int x3), (.int x4), (.int x5)] maxLocals = mkF m 0 #[.val (.int x0), .val (.int x1), .val (.int x2), .val (.int x3), .val (.int x4), .val (.int x5), .unset, .unset, .unset, .unset, .unset, .unset, .unset, .unset, .unset, .unset, .unset, .unset, .unset, .unset, .unset, .unset, .unset, .unset, .unset, .unset, .unset] [] := by first | (simp [entryFrame, mkF, argsToLocals, Value.category, maxLocals]; done) | rfl
def Q_rm0 (Z : State) (x0 x1 x2 x3 x4 x5 : Int32) (h0 : Heap) (n0 : Nat) : Option Value → Heap → List Loc → Prop := fun v h L => v = some (.int 1) ∧ Fr n0 L
set_option maxRecDepth 65536 in
set_option maxHeartbeats 40000000 in
theorem rm0 (l : Launch) (Z : State) (a0 : Array Value) (hw : ∀ d ∈ tables_1, d.before a0 Z = true) (ws : List Jvm.Cond) (x0 x1 x2 x3 x4 x5 : Int32) (h0 : Heap) (n0 : Nat) (Z0 : n0 ≤ h0.size) (O_0 : Old Z n0 h0) (S_a : Sta Z Z.heap "java/util/BitSet" "$assertionsDisabled" "Z" (.int 1)) :
    MetFree l x (head1 (Jvm.Cond.code x code maxLocals ret :: ws) room_1) (fun as_ U => as_ = #[(.int x0), (.int x1), (.int x2), (.int x3), (.int x4), (.int x5)] ∧ Z.Warmed39 U.vm ∧ U.heap = h0) (fun _ _ _ _ _ => True) (fun _ U o U' => ∃ v L, o = .returned v ∧ (Q_rm0 Z x0 x1 x2 x3 x4 x5 h0 n0) v U'.heap L ∧ FrameEnd U o U' L 32 192) := by
  refine MetFree.of_bodySF (plainFor_of_name pn_0) hisR ?_
  intro p e s m args below meth c s₁ Bd hml0 hP hK
  obtain ⟨rfl, hZ, hh⟩ := hP
  have hx := Bd.exec
  have hby := Bd.bytes
  have hml : c.maxLocals = 27 := hml0
  have hown : s.vm.findClass "com/example/relyguard/relyguard/FootprintDependsOnPinLaw" = some m.cls := findClass_of_methodNamed Bd.named
  have hnm := (name_of_methodNamed Bd.named Bd.method).1
  have X0 : Stand p l e room_1 s m #[(.int x0), (.int x1), (.int x2), (.int x3), (.int x4), (.int x5)] below meth c s₁ [] 0 0 := Stand.of_body Bd
  have e0 : s₁.heap = h0 := by rw [← hh, Bd.state]; rfl
  have N0 := Fr.nil n0
  show own_G p e below s (Q_rm0 Z x0 x1 x2 x3 x4 x5 h0 n0) 32 192 (s₁.setTop (entryFrame m #[(.int x0), (.int x1), (.int x2), (.int x3), (.int x4), (.int x5)] maxLocals))
  rw [ef_rm0 m x0 x1 x2 x3 x4 x5]
  obtain ⟨ta, hta, eta⟩ := own_rem3 x4
  obtain ⟨ub, hub, eub⟩ := own_rem3 ((x4.toUInt32 >>> ((2 : Int32) &&& 31).toUInt32).toInt32)
  obtain ⟨kA, hkA', ekA⟩ := own_mask ((x5.toUInt32 >>> ((4 : Int32) &&& 31).toUInt32).toInt32) 15 (by decide)
  obtain ⟨kB, hkB', ekB⟩ := own_mask ((x5.toUInt32 >>> ((8 : Int32) &&& 31).toUInt32).toInt32) 15 (by decide)
  have hkA : kA < 16 := by omega
  have hkB : kB < 16 := by omega
  have ekA' : (((x5.toUInt32 >>> ((4 : Int32) &&& 31).toUInt32).toInt32) &&& (15 : Int32)) = Int32.ofNat kA := ekA
  have ekB' : (((x5.toUInt32 >>> ((8 : Int32) &&& 31).toUInt32).toInt32) &&& (15 : Int32)) = Int32.ofNat kB := ekB
  obtain ⟨qa1, qa2, qa3, qa4⟩ := own_lt0 hta
  obtain ⟨qb1, qb2, qb3, qb4⟩ := own_lt0 hub
  show own_G p e below s _ _ _ (s₁.setTop (mkF m 0 #[.val (.int x0), .val (.int x1), .val (.int x2), .val (.int x3), .val (.int x4), .val (.int x5), .unset, .unset, .unset, .unset, .unset, .unset, .unset, .unset, .unset, .unset, .unset, .unset, .unset, .unset, .unset, .unset, .unset, .unset, .unset, .unset, .unset] []))
  refine own_go (fun _ kk_ => XS.iload X0.here hx rfl (hb hby at_0) rfl kk_) ?_
  show own_G p e below s _ _ _ (s₁.setTop (mkF m 2 #[.val (.int x0), .val (.int x1), .val (.int x2), .val (.int x3), .val (.int x4), .val (.int x5), .unset, .unset, .unset, .unset, .unset, .unset, .unset, .unset, .unset, .unset, .unset, .unset, .unset, .unset, .unset, .unset, .unset, .unset, .unset, .unset, .unset] [(.int x4)]))
  refine own_go (fun _ kk_ => XS.iconst X0.here hx rfl (hb hby at_2) kk_) ?_
  show own_G p e below s _ _ _ (s₁.setTop (mkF m 3 #[.val (.int x0), .val (.int x1), .val (.int x2), .val (.int x3), .val (.int x4), .val (.int x5), .unset, .unset, .unset, .unset, .unset, .unset, .unset, .unset, .unset, .unset, .unset, .unset, .unset, .unset, .unset, .unset, .unset, .unset, .unset, .unset, .unset] [(.int (3 : Int32)), (.int x4)]))
  refine own_go (fun _ kk_ => XS.iand X0.here hx rfl (hb hby at_3) rfl kk_) ?_
  show own_G p e below s _ _ _ (s₁.setTop (mkF m 4 #[.val (.int x0), .val (.int x1), .val (.int x2), .val (.int x3), .val (.int x4), .val (.int x5), .unset, .unset, .unset, .unset, .unset, .unset, .unset, .unset, .unset, .unset, .unset, .unset, .unset, .unset, .unset, .unset, .unset, .unset, .unset, .unset, .unset] [(.int (x4 &&& (3 : Int32)))]))
  refine own_go (fun _ kk_ => XS.iconst X0.here hx rfl (hb hby at_4) kk_) ?_
  show own_G p e below s _ _ _ (s₁.setTop (mkF m 5 #[.val (.int x0), .val (.int x1), .val (.int x2), .val (.int x3), .val (.int x4), .val (.int x5), .unset, .unset, .unset, .unset, .unset, .unset, .unset, .unset, .unset, .unset, .unset, .unset, .unset, .unset, .unset, .unset, .unset, .unset, .unset, .unset, .unset] [(.int (3 : Int32)), (.int (x4 &&& (3 : Int32)))]))
  refine own_go (fun _ kk_ => iremM X0 hx rfl (hb hby at_5) rfl (by decide) kk_) ?_
  show own_G p e below s _ _ _ (s₁.setTop (mkF m 6 #[.val (.int x0), .val (.int x1), .val (.int x2), .val (.int x3), .val (.int x4), .val (.int x5), .unset, .unset, .unset, .unset, .unset, .unset, .unset, .unset, .unset, .unset, .unset, .unset, .unset, .unset, .unset, .unset, .unset, .unset, .unset, .unset, .unset] [(.int ((x4 &&& (3 : Int32)) % (3 : Int32)))]))
  rw [eta]
  show own_G p e below s _ _ _ (s₁.setTop (mkF m 6 #[.val (.int x0), .val (.int x1), .val (.int x2), .val (.int x3), .val (.int x4), .val (.int x5), .unset, .unset, .unset, .unset, .unset, .unset, .unset, .unset, .unset, .unset, .unset, .unset, .unset, .unset, .unset, .unset, .unset, .unset, .unset, .unset, .unset] [(.int (Int32.ofNat ta))]))
  refine own_go (fun _ kk_ => XS.istore X0.here hx rfl (hb hby at_6) rfl (l' := #[.val (.int x0), .val (.int x1), .val (.int x2), .val (.int x3), .val (.int x4), .val (.int x5), .val (.int (Int32.ofNat ta)), .unset, .unset, .unset, .unset, .unset, .unset, .unset, .unset, .unset, .unset, .unset, .unset, .unset, .unset, .unset, .unset, .unset, .unset, .unset, .unset]) rfl kk_) ?_
  show own_G p e below s _ _ _ (s₁.setTop (mkF m 8 #[.val (.int x0), .val (.int x1), .val (.int x2), .val (.int x3), .val (.int x4), .val (.int x5), .val (.int (Int32.ofNat ta)), .unset, .unset, .unset, .unset, .unset, .unset, .unset, .unset, .unset, .unset, .unset, .unset, .unset, .unset, .unset, .unset, .unset, .unset, .unset, .unset] []))
  refine own_go (fun _ kk_ => XS.iload X0.here hx rfl (hb hby at_8) rfl kk_) ?_
  show own_G p e below s _ _ _ (s₁.setTop (mkF m 10 #[.val (.int x0), .val (.int x1), .val (.int x2), .val (.int x3), .val (.int x4), .val (.int x5), .val (.int (Int32.ofNat ta)), .unset, .unset, .unset, .unset, .unset, .unset, .unset, .unset, .unset, .unset, .unset, .unset, .unset, .unset, .unset, .unset, .unset, .unset, .unset, .unset] [(.int x4)]))
  refine own_go (fun _ kk_ => XS.iconst X0.here hx rfl (hb hby at_10) kk_) ?_
  show own_G p e below s _ _ _ (s₁.setTop (mkF m 11 #[.val (.int x0), .val (.int x1), .val (.int x2), .val (.int x3), .val (.int x4), .val (.int x5), .val (.int (Int32.ofNat ta)), .unset, .unset, .unset, .unset, .unset, .unset, .unset, .unset, .unset, .unset, .unset, .unset, .unset, .unset, .unset, .unset, .unset, .unset, .unset, .unset] [(.int (2 : Int32)), (.int x4)]))
  refine own_go (fun _ kk_ => XS.iushr X0.here hx rfl (hb hby at_11) rfl kk_) ?_
  show own_G p e below s _ _ _ (s₁.setTop (mkF m 12 #[.val (.int x0), .val (.int x1), .val (.int x2), .val (.int x3), .val (.int x4), .val (.int x5), .val (.int (Int32.ofNat ta)), .unset, .unset, .unset, .unset, .unset, .unset, .unset, .unset, .unset, .unset, .unset, .unset, .unset, .unset, .unset, .unset, .unset, .unset, .unset, .unset] [(.int ((x4.toUInt32 >>> ((2 : Int32) &&& 31).toUInt32).toInt32))]))
  refine own_go (fun _ kk_ => XS.iconst X0.here hx rfl (hb hby at_12) kk_) ?_
  show own_G p e below s _ _ _ (s₁.setTop (mkF m 13 #[.val (.int x0), .val (.int x1), .val (.int x2), .val (.int x3), .val (.int x4), .val (.int x5), .val (.int (Int32.ofNat ta)), .unset, .unset, .unset, .unset, .unset, .unset, .unset, .unset, .unset, .unset, .unset, .unset, .unset, .unset, .unset, .unset, .unset, .unset, .unset, .unset] [(.int (3 : Int32)), (.int ((x4.toUInt32 >>> ((2 : Int32) &&& 31).toUInt32).toInt32))]))
  refine own_go (fun _ kk_ => XS.iand X0.here hx rfl (hb hby at_13) rfl kk_) ?_
  show own_G p e below s _ _ _ (s₁.setTop (mkF m 14 #[.val (.int x0), .val (.int x1), .val (.int x2), .val (.int x3), .val (.int x4), .val (.int x5), .val (.int (Int32.ofNat ta)), .unset, .unset, .unset, .unset, .unset, .unset, .unset, .unset, .unset, .unset, .unset, .unset, .unset, .unset, .unset, .unset, .unset, .unset, .unset, .unset] [(.int (((x4.toUInt32 >>> ((2 : Int32) &&& 31).toUInt32).toInt32) &&& (3 : Int32)))]))
  refine own_go (fun _ kk_ => XS.iconst X0.here hx rfl (hb hby at_14) kk_) ?_
  show own_G p e below s _ _ _ (s₁.setTop (mkF m 15 #[.val (.int x0), .val (.int x1), .val (.int x2), .val (.int x3), .val (.int x4), .val (.int x5), .val (.int (Int32.ofNat ta)), .unset, .unset, .unset, .unset, .unset, .unset, .unset, .unset, .unset, .unset, .unset, .unset, .unset, .unset, .unset, .unset, .unset, .unset, .unset, .unset] [(.int (3 : Int32)), (.int (((x4.toUInt32 >>> ((2 : Int32) &&& 31).toUInt32).toInt32) &&& (3 : Int32)))]))
  refine own_go (fun _ kk_ => iremM X0 hx rfl (hb hby at_15) rfl (by decide) kk_) ?_
  show own_G p e below s _ _ _ (s₁.setTop (mkF m 16 #[.val (.int x0), .val (.int x1), .val (.int x2), .val (.int x3), .val (.int x4), .val (.int x5), .val (.int (Int32.ofNat ta)), .unset, .unset, .unset, .unset, .unset, .unset, .unset, .unset, .unset, .unset, .unset, .unset, .unset, .unset, .unset, .unset, .unset, .unset, .unset, .unset] [(.int ((((x4.toUInt32 >>> ((2 : Int32) &&& 31).toUInt32).toInt32) &&& (3 : Int32)) % (3 : Int32)))]))
  rw [eub]
  show own_G p e below s _ _ _ (s₁.setTop (mkF m 16 #[.val (.int x0), .val (.int x1), .val (.int x2), .val (.int x3), .val (.int x4), .val (.int x5), .val (.int (Int32.ofNat ta)), .unset, .unset, .unset, .unset, .unset, .unset, .unset, .unset, .unset, .unset, .unset, .unset, .unset, .unset, .unset, .unset, .unset, .unset, .unset, .unset] [(.int (Int32.ofNat ub))]))
  refine own_go (fun _ kk_ => XS.istore X0.here hx rfl (hb hby at_16) rfl (l' := #[.val (.int x0), .val (.int x1), .val (.int x2), .val (.int x3), .val (.int x4), .val (.int x5), .val (.int (Int32.ofNat ta)), .val (.int (Int32.ofNat ub)), .unset, .unset, .unset, .unset, .unset, .unset, .unset, .unset, .unset, .unset, .unset, .unset, .unset, .unset, .unset, .unset, .unset, .unset, .unset]) rfl kk_) ?_
  show own_G p e below s _ _ _ (s₁.setTop (mkF m 18 #[.val (.int x0), .val (.int x1), .val (.int x2), .val (.int x3), .val (.int x4), .val (.int x5), .val (.int (Int32.ofNat ta)), .val (.int (Int32.ofNat ub)), .unset, .unset, .unset, .unset, .unset, .unset, .unset, .unset, .unset, .unset, .unset, .unset, .unset, .unset, .unset, .unset, .unset, .unset, .unset] []))
  refine own_go (fun _ kk_ => XS.iload X0.here hx rfl (hb hby at_18) rfl kk_) ?_
  show own_G p e below s _ _ _ (s₁.setTop (mkF m 20 #[.val (.int x0), .val (.int x1), .val (.int x2), .val (.int x3), .val (.int x4), .val (.int x5), .val (.int (Int32.ofNat ta)), .val (.int (Int32.ofNat ub)), .unset, .unset, .unset, .unset, .unset, .unset, .unset, .unset, .unset, .unset, .unset, .unset, .unset, .unset, .unset, .unset, .unset, .unset, .unset] [(.int x4)]))
  refine own_go (fun _ kk_ => XS.iconst X0.here hx rfl (hb hby at_20) kk_) ?_
  show own_G p e below s _ _ _ (s₁.setTop (mkF m 21 #[.val (.int x0), .val (.int x1), .val (.int x2), .val (.int x3), .val (.int x4), .val (.int x5), .val (.int (Int32.ofNat ta)), .val (.int (Int32.ofNat ub)), .unset, .unset, .unset, .unset, .unset, .unset, .unset, .unset, .unset, .unset, .unset, .unset, .unset, .unset, .unset, .unset, .unset, .unset, .unset] [(.int (4 : Int32)), (.int x4)]))
  obtain ⟨_, _, ⟨T1, L1, k1, n1⟩, -, X1, ⟨Lc1, hQ1, l1, y1, z1⟩, st1⟩ := Jvm.LawKit.callS X0 hx (y := (⟨"com/example/relyguard/relyguard/FootprintDependsOnPinLaw", "bit", "(II)Z"⟩ : MethodName)) hown (mvT hZ (hw _ (List.mem_of_getElem? (i := 0) rfl))) (mvT hZ (hw _ (List.mem_of_getElem? (i := 1) rfl))) (mvT hZ (hw _ (List.mem_of_getElem? (i := 2) rfl))) (mvT hZ (hw _ (List.mem_of_getElem? (i := 3) rfl))) (by decide) (backOf (W := 0) (rmBit l Z a0 hw [] x4 (4 : Int32) h0 n0 Z0) hZ (hw _ (List.mem_of_getElem? (i := 3) rfl)) (hw _ (List.mem_of_getElem? (i := 2) rfl)) (by decide) (by decide)) (g := (mkF m 21 #[.val (.int x0), .val (.int x1), .val (.int x2), .val (.int x3), .val (.int x4), .val (.int x5), .val (.int (Int32.ofNat ta)), .val (.int (Int32.ofNat ub)), .unset, .unset, .unset, .unset, .unset, .unset, .unset, .unset, .unset, .unset, .unset, .unset, .unset, .unset, .unset, .unset, .unset, .unset, .unset] [(.int (4 : Int32)), (.int x4)])) rfl (by rw [hml]; rfl) (argsL := [(.int x4), (.int (4 : Int32))]) (rest := []) (lenOf pd_3 rfl) rfl (by show 2 * 0 + _ ≤ _; exact Nat.le_of_eq rfl) (hb hby at_21) (fun _ _ => ⟨rfl, e0, (by decide : 0 + 0 ≤ _), (by decide : 0 + 0 ≤ _)⟩)
  dsimp only [Pt.U, Pt.locs, Pt.cells, Pt.slots] at X1 l1 y1 z1 st1 hQ1
  subst l1 y1 z1
  obtain ⟨B8, rfl, N1q, e1, hB8⟩ := hQ1
  have N1 := Fr.app N0 N1q
  refine own_go st1 ?_
  show own_G p e below s _ _ _ (T1.setTop (mkF m 24 #[.val (.int x0), .val (.int x1), .val (.int x2), .val (.int x3), .val (.int x4), .val (.int x5), .val (.int (Int32.ofNat ta)), .val (.int (Int32.ofNat ub)), .unset, .unset, .unset, .unset, .unset, .unset, .unset, .unset, .unset, .unset, .unset, .unset, .unset, .unset, .unset, .unset, .unset, .unset, .unset] [(.int B8)]))
  refine own_go (fun _ kk_ => XS.istore X1.here hx rfl (hb hby at_24) rfl (l' := #[.val (.int x0), .val (.int x1), .val (.int x2), .val (.int x3), .val (.int x4), .val (.int x5), .val (.int (Int32.ofNat ta)), .val (.int (Int32.ofNat ub)), .val (.int B8), .unset, .unset, .unset, .unset, .unset, .unset, .unset, .unset, .unset, .unset, .unset, .unset, .unset, .unset, .unset, .unset, .unset, .unset]) rfl kk_) ?_
  show own_G p e below s _ _ _ (T1.setTop (mkF m 26 #[.val (.int x0), .val (.int x1), .val (.int x2), .val (.int x3), .val (.int x4), .val (.int x5), .val (.int (Int32.ofNat ta)), .val (.int (Int32.ofNat ub)), .val (.int B8), .unset, .unset, .unset, .unset, .unset, .unset, .unset, .unset, .unset, .unset, .unset, .unset, .unset, .unset, .unset, .unset, .unset, .unset] []))
  refine own_go (fun _ kk_ => XS.iload X1.here hx rfl (hb hby at_26) rfl kk_) ?_
  show own_G p e below s _ _ _ (T1.setTop (mkF m 28 #[.val (.int x0), .val (.int x1), .val (.int x2), .val (.int x3), .val (.int x4), .val (.int x5), .val (.int (Int32.ofNat ta)), .val (.int (Int32.ofNat ub)), .val (.int B8), .unset, .unset, .unset, .unset, .unset, .unset, .unset, .unset, .unset, .unset, .unset, .unset, .unset, .unset, .unset, .unset, .unset, .unset] [(.int x4)]))
  refine own_go (fun _ kk_ => XS.iconst X1.here hx rfl (hb hby at_28) kk_) ?_
  show own_G p e below s _ _ _ (T1.setTop (mkF m 29 #[.val (.int x0), .val (.int x1), .val (.int x2), .val (.int x3), .val (.int x4), .val (.int x5), .val (.int (Int32.ofNat ta)), .val (.int (Int32.ofNat ub)), .val (.int B8), .unset, .unset, .unset, .unset, .unset, .unset, .unset, .unset, .unset, .unset, .unset, .unset, .unset, .unset, .unset, .unset, .unset, .unset] [(.int (5 : Int32)), (.int x4)]))
  obtain ⟨_, _, ⟨T2, L2, k2, n2⟩, -, X2, ⟨Lc2, hQ2, l2, y2, z2⟩, st2⟩ := Jvm.LawKit.callS X1 hx (y := (⟨"com/example/relyguard/relyguard/FootprintDependsOnPinLaw", "bit", "(II)Z"⟩ : MethodName)) hown (mvT hZ (hw _ (List.mem_of_getElem? (i := 0) rfl))) (mvT hZ (hw _ (List.mem_of_getElem? (i := 1) rfl))) (mvT hZ (hw _ (List.mem_of_getElem? (i := 2) rfl))) (mvT hZ (hw _ (List.mem_of_getElem? (i := 3) rfl))) (by decide) (backOf (W := 0) (rmBit l Z a0 hw [] x4 (5 : Int32) h0 n0 Z0) hZ (hw _ (List.mem_of_getElem? (i := 3) rfl)) (hw _ (List.mem_of_getElem? (i := 2) rfl)) (by decide) (by decide)) (g := (mkF m 29 #[.val (.int x0), .val (.int x1), .val (.int x2), .val (.int x3), .val (.int x4), .val (.int x5), .val (.int (Int32.ofNat ta)), .val (.int (Int32.ofNat ub)), .val (.int B8), .unset, .unset, .unset, .unset, .unset, .unset, .unset, .unset, .unset, .unset, .unset, .unset, .unset, .unset, .unset, .unset, .unset, .unset] [(.int (5 : Int32)), (.int x4)])) rfl (by rw [hml]; rfl) (argsL := [(.int x4), (.int (5 : Int32))]) (rest := []) (lenOf pd_3 rfl) rfl (by show 2 * 0 + _ ≤ _; exact Nat.le_of_eq rfl) (hb hby at_29) (fun _ _ => ⟨rfl, e1, (by decide : 0 + 0 ≤ _), (by decide : 0 + 0 ≤ _)⟩)
  dsimp only [Pt.U, Pt.locs, Pt.cells, Pt.slots] at X2 l2 y2 z2 st2 hQ2
  subst l2 y2 z2
  obtain ⟨B9, rfl, N2q, e2, hB9⟩ := hQ2
  have N2 := Fr.app N1 N2q
  refine own_go st2 ?_
  show own_G p e below s _ _ _ (T2.setTop (mkF m 32 #[.val (.int x0), .val (.int x1), .val (.int x2), .val (.int x3), .val (.int x4), .val (.int x5), .val (.int (Int32.ofNat ta)), .val (.int (Int32.ofNat ub)), .val (.int B8), .unset, .unset, .unset, .unset, .unset, .unset, .unset, .unset, .unset, .unset, .unset, .unset, .unset, .unset, .unset, .unset, .unset, .unset] [(.int B9)]))
  refine own_go (fun _ kk_ => XS.istore X2.here hx rfl (hb hby at_32) rfl (l' := #[.val (.int x0), .val (.int x1), .val (.int x2), .val (.int x3), .val (.int x4), .val (.int x5), .val (.int (Int32.ofNat ta)), .val (.int (Int32.ofNat ub)), .val (.int B8), .val (.int B9), .unset, .unset, .unset, .unset, .unset, .unset, .unset, .unset, .unset, .unset, .unset, .unset, .unset, .unset, .unset, .unset, .unset]) rfl kk_) ?_
  show own_G p e below s _ _ _ (T2.setTop (mkF m 34 #[.val (.int x0), .val (.int x1), .val (.int x2), .val (.int x3), .val (.int x4), .val (.int x5), .val (.int (Int32.ofNat ta)), .val (.int (Int32.ofNat ub)), .val (.int B8), .val (.int B9), .unset, .unset, .unset, .unset, .unset, .unset, .unset, .unset, .unset, .unset, .unset, .unset, .unset, .unset, .unset, .unset, .unset] []))
  refine own_go (fun _ kk_ => XS.iload X2.here hx rfl (hb hby at_34) rfl kk_) ?_
  show own_G p e below s _ _ _ (T2.setTop (mkF m 36 #[.val (.int x0), .val (.int x1), .val (.int x2), .val (.int x3), .val (.int x4), .val (.int x5), .val (.int (Int32.ofNat ta)), .val (.int (Int32.ofNat ub)), .val (.int B8), .val (.int B9), .unset, .unset, .unset, .unset, .unset, .unset, .unset, .unset, .unset, .unset, .unset, .unset, .unset, .unset, .unset, .unset, .unset] [(.int x4)]))
  refine own_go (fun _ kk_ => XS.bipush X2.here hx rfl (hb hby at_36) kk_) ?_
  show own_G p e below s _ _ _ (T2.setTop (mkF m 38 #[.val (.int x0), .val (.int x1), .val (.int x2), .val (.int x3), .val (.int x4), .val (.int x5), .val (.int (Int32.ofNat ta)), .val (.int (Int32.ofNat ub)), .val (.int B8), .val (.int B9), .unset, .unset, .unset, .unset, .unset, .unset, .unset, .unset, .unset, .unset, .unset, .unset, .unset, .unset, .unset, .unset, .unset] [(.int (6 : Int32)), (.int x4)]))
  obtain ⟨_, _, ⟨T3, L3, k3, n3⟩, -, X3, ⟨Lc3, hQ3, l3, y3, z3⟩, st3⟩ := Jvm.LawKit.callS X2 hx (y := (⟨"com/example/relyguard/relyguard/FootprintDependsOnPinLaw", "bit", "(II)Z"⟩ : MethodName)) hown (mvT hZ (hw _ (List.mem_of_getElem? (i := 0) rfl))) (mvT hZ (hw _ (List.mem_of_getElem? (i := 1) rfl))) (mvT hZ (hw _ (List.mem_of_getElem? (i := 2) rfl))) (mvT hZ (hw _ (List.mem_of_getElem? (i := 3) rfl))) (by decide) (backOf (W := 0) (rmBit l Z a0 hw [] x4 (6 : Int32) h0 n0 Z0) hZ (hw _ (List.mem_of_getElem? (i := 3) rfl)) (hw _ (List.mem_of_getElem? (i := 2) rfl)) (by decide) (by decide)) (g := (mkF m 38 #[.val (.int x0), .val (.int x1), .val (.int x2), .val (.int x3), .val (.int x4), .val (.int x5), .val (.int (Int32.ofNat ta)), .val (.int (Int32.ofNat ub)), .val (.int B8), .val (.int B9), .unset, .unset, .unset, .unset, .unset, .unset, .unset, .unset, .unset, .unset, .unset, .unset, .unset, .unset, .unset, .unset, .unset] [(.int (6 : Int32)), (.int x4)])) rfl (by rw [hml]; rfl) (argsL := [(.int x4), (.int (6 : Int32))]) (rest := []) (lenOf pd_3 rfl) rfl (by show 2 * 0 + _ ≤ _; exact Nat.le_of_eq rfl) (hb hby at_38) (fun _ _ => ⟨rfl, e2, (by decide : 0 + 0 ≤ _), (by decide : 0 + 0 ≤ _)⟩)
  dsimp only [Pt.U, Pt.locs, Pt.cells, Pt.slots] at X3 l3 y3 z3 st3 hQ3
  subst l3 y3 z3
  obtain ⟨B10, rfl, N3q, e3, hB10⟩ := hQ3
  have N3 := Fr.app N2 N3q
  refine own_go st3 ?_
  show own_G p e below s _ _ _ (T3.setTop (mkF m 41 #[.val (.int x0), .val (.int x1), .val (.int x2), .val (.int x3), .val (.int x4), .val (.int x5), .val (.int (Int32.ofNat ta)), .val (.int (Int32.ofNat ub)), .val (.int B8), .val (.int B9), .unset, .unset, .unset, .unset, .unset, .unset, .unset, .unset, .unset, .unset, .unset, .unset, .unset, .unset, .unset, .unset, .unset] [(.int B10)]))
  refine own_go (fun _ kk_ => XS.istore X3.here hx rfl (hb hby at_41) rfl (l' := #[.val (.int x0), .val (.int x1), .val (.int x2), .val (.int x3), .val (.int x4), .val (.int x5), .val (.int (Int32.ofNat ta)), .val (.int (Int32.ofNat ub)), .val (.int B8), .val (.int B9), .val (.int B10), .unset, .unset, .unset, .unset, .unset, .unset, .unset, .unset, .unset, .unset, .unset, .unset, .unset, .unset, .unset, .unset]) rfl kk_) ?_
  show own_G p e below s _ _ _ (T3.setTop (mkF m 43 #[.val (.int x0), .val (.int x1), .val (.int x2), .val (.int x3), .val (.int x4), .val (.int x5), .val (.int (Int32.ofNat ta)), .val (.int (Int32.ofNat ub)), .val (.int B8), .val (.int B9), .val (.int B10), .unset, .unset, .unset, .unset, .unset, .unset, .unset, .unset, .unset, .unset, .unset, .unset, .unset, .unset, .unset, .unset] []))
  refine own_go (fun _ kk_ => XS.iload X3.here hx rfl (hb hby at_43) rfl kk_) ?_
  show own_G p e below s _ _ _ (T3.setTop (mkF m 45 #[.val (.int x0), .val (.int x1), .val (.int x2), .val (.int x3), .val (.int x4), .val (.int x5), .val (.int (Int32.ofNat ta)), .val (.int (Int32.ofNat ub)), .val (.int B8), .val (.int B9), .val (.int B10), .unset, .unset, .unset, .unset, .unset, .unset, .unset, .unset, .unset, .unset, .unset, .unset, .unset, .unset, .unset, .unset] [(.int x4)]))
  refine own_go (fun _ kk_ => XS.bipush X3.here hx rfl (hb hby at_45) kk_) ?_
  show own_G p e below s _ _ _ (T3.setTop (mkF m 47 #[.val (.int x0), .val (.int x1), .val (.int x2), .val (.int x3), .val (.int x4), .val (.int x5), .val (.int (Int32.ofNat ta)), .val (.int (Int32.ofNat ub)), .val (.int B8), .val (.int B9), .val (.int B10), .unset, .unset, .unset, .unset, .unset, .unset, .unset, .unset, .unset, .unset, .unset, .unset, .unset, .unset, .unset, .unset] [(.int (7 : Int32)), (.int x4)]))
  obtain ⟨_, _, ⟨T4, L4, k4, n4⟩, -, X4, ⟨Lc4, hQ4, l4, y4, z4⟩, st4⟩ := Jvm.LawKit.callS X3 hx (y := (⟨"com/example/relyguard/relyguard/FootprintDependsOnPinLaw", "bit", "(II)Z"⟩ : MethodName)) hown (mvT hZ (hw _ (List.mem_of_getElem? (i := 0) rfl))) (mvT hZ (hw _ (List.mem_of_getElem? (i := 1) rfl))) (mvT hZ (hw _ (List.mem_of_getElem? (i := 2) rfl))) (mvT hZ (hw _ (List.mem_of_getElem? (i := 3) rfl))) (by decide) (backOf (W := 0) (rmBit l Z a0 hw [] x4 (7 : Int32) h0 n0 Z0) hZ (hw _ (List.mem_of_getElem? (i := 3) rfl)) (hw _ (List.mem_of_getElem? (i := 2) rfl)) (by decide) (by decide)) (g := (mkF m 47 #[.val (.int x0), .val (.int x1), .val (.int x2), .val (.int x3), .val (.int x4), .val (.int x5), .val (.int (Int32.ofNat ta)), .val (.int (Int32.ofNat ub)), .val (.int B8), .val (.int B9), .val (.int B10), .unset, .unset, .unset, .unset, .unset, .unset, .unset, .unset, .unset, .unset, .unset, .unset, .unset, .unset, .unset, .unset] [(.int (7 : Int32)), (.int x4)])) rfl (by rw [hml]; rfl) (argsL := [(.int x4), (.int (7 : Int32))]) (rest := []) (lenOf pd_3 rfl) rfl (by show 2 * 0 + _ ≤ _; exact Nat.le_of_eq rfl) (hb hby at_47) (fun _ _ => ⟨rfl, e3, (by decide : 0 + 0 ≤ _), (by decide : 0 + 0 ≤ _)⟩)
  dsimp only [Pt.U, Pt.locs, Pt.cells, Pt.slots] at X4 l4 y4 z4 st4 hQ4
  subst l4 y4 z4
  obtain ⟨B11, rfl, N4q, e4, hB11⟩ := hQ4
  have N4 := Fr.app N3 N4q
  refine own_go st4 ?_
  show own_G p e below s _ _ _ (T4.setTop (mkF m 50 #[.val (.int x0), .val (.int x1), .val (.int x2), .val (.int x3), .val (.int x4), .val (.int x5), .val (.int (Int32.ofNat ta)), .val (.int (Int32.ofNat ub)), .val (.int B8), .val (.int B9), .val (.int B10), .unset, .unset, .unset, .unset, .unset, .unset, .unset, .unset, .unset, .unset, .unset, .unset, .unset, .unset, .unset, .unset] [(.int B11)]))
  refine own_go (fun _ kk_ => XS.istore X4.here hx rfl (hb hby at_50) rfl (l' := #[.val (.int x0), .val (.int x1), .val (.int x2), .val (.int x3), .val (.int x4), .val (.int x5), .val (.int (Int32.ofNat ta)), .val (.int (Int32.ofNat ub)), .val (.int B8), .val (.int B9), .val (.int B10), .val (.int B11), .unset, .unset, .unset, .unset, .unset, .unset, .unset, .unset, .unset, .unset, .unset, .unset, .unset, .unset, .unset]) rfl kk_) ?_
  show own_G p e below s _ _ _ (T4.setTop (mkF m 52 #[.val (.int x0), .val (.int x1), .val (.int x2), .val (.int x3), .val (.int x4), .val (.int x5), .val (.int (Int32.ofNat ta)), .val (.int (Int32.ofNat ub)), .val (.int B8), .val (.int B9), .val (.int B10), .val (.int B11), .unset, .unset, .unset, .unset, .unset, .unset, .unset, .unset, .unset, .unset, .unset, .unset, .unset, .unset, .unset] []))
  refine own_go (fun _ kk_ => XS.iload X4.here hx rfl (hb hby at_52) rfl kk_) ?_
  show own_G p e below s _ _ _ (T4.setTop (mkF m 54 #[.val (.int x0), .val (.int x1), .val (.int x2), .val (.int x3), .val (.int x4), .val (.int x5), .val (.int (Int32.ofNat ta)), .val (.int (Int32.ofNat ub)), .val (.int B8), .val (.int B9), .val (.int B10), .val (.int B11), .unset, .unset, .unset, .unset, .unset, .unset, .unset, .unset, .unset, .unset, .unset, .unset, .unset, .unset, .unset] [(.int x4)]))
  refine own_go (fun _ kk_ => XS.bipush X4.here hx rfl (hb hby at_54) kk_) ?_
  show own_G p e below s _ _ _ (T4.setTop (mkF m 56 #[.val (.int x0), .val (.int x1), .val (.int x2), .val (.int x3), .val (.int x4), .val (.int x5), .val (.int (Int32.ofNat ta)), .val (.int (Int32.ofNat ub)), .val (.int B8), .val (.int B9), .val (.int B10), .val (.int B11), .unset, .unset, .unset, .unset, .unset, .unset, .unset, .unset, .unset, .unset, .unset, .unset, .unset, .unset, .unset] [(.int (8 : Int32)), (.int x4)]))
  obtain ⟨_, _, ⟨T5, L5, k5, n5⟩, -, X5, ⟨Lc5, hQ5, l5, y5, z5⟩, st5⟩ := Jvm.LawKit.callS X4 hx (y := (⟨"com/example/relyguard/relyguard/FootprintDependsOnPinLaw", "bit", "(II)Z"⟩ : MethodName)) hown (mvT hZ (hw _ (List.mem_of_getElem? (i := 0) rfl))) (mvT hZ (hw _ (List.mem_of_getElem? (i := 1) rfl))) (mvT hZ (hw _ (List.mem_of_getElem? (i := 2) rfl))) (mvT hZ (hw _ (List.mem_of_getElem? (i := 3) rfl))) (by decide) (backOf (W := 0) (rmBit l Z a0 hw [] x4 (8 : Int32) h0 n0 Z0) hZ (hw _ (List.mem_of_getElem? (i := 3) rfl)) (hw _ (List.mem_of_getElem? (i := 2) rfl)) (by decide) (by decide)) (g := (mkF m 56 #[.val (.int x0), .val (.int x1), .val (.int x2), .val (.int x3), .val (.int x4), .val (.int x5), .val (.int (Int32.ofNat ta)), .val (.int (Int32.ofNat ub)), .val (.int B8), .val (.int B9), .val (.int B10), .val (.int B11), .unset, .unset, .unset, .unset, .unset, .unset, .unset, .unset, .unset, .unset, .unset, .unset, .unset, .unset, .unset] [(.int (8 : Int32)), (.int x4)])) rfl (by rw [hml]; rfl) (argsL := [(.int x4), (.int (8 : Int32))]) (rest := []) (lenOf pd_3 rfl) rfl (by show 2 * 0 + _ ≤ _; exact Nat.le_of_eq rfl) (hb hby at_56) (fun _ _ => ⟨rfl, e4, (by decide : 0 + 0 ≤ _), (by decide : 0 + 0 ≤ _)⟩)
  dsimp only [Pt.U, Pt.locs, Pt.cells, Pt.slots] at X5 l5 y5 z5 st5 hQ5
  subst l5 y5 z5
  obtain ⟨B12, rfl, N5q, e5, hB12⟩ := hQ5
  have N5 := Fr.app N4 N5q
  refine own_go st5 ?_
  show own_G p e below s _ _ _ (T5.setTop (mkF m 59 #[.val (.int x0), .val (.int x1), .val (.int x2), .val (.int x3), .val (.int x4), .val (.int x5), .val (.int (Int32.ofNat ta)), .val (.int (Int32.ofNat ub)), .val (.int B8), .val (.int B9), .val (.int B10), .val (.int B11), .unset, .unset, .unset, .unset, .unset, .unset, .unset, .unset, .unset, .unset, .unset, .unset, .unset, .unset, .unset] [(.int B12)]))
  refine own_go (fun _ kk_ => XS.istore X5.here hx rfl (hb hby at_59) rfl (l' := #[.val (.int x0), .val (.int x1), .val (.int x2), .val (.int x3), .val (.int x4), .val (.int x5), .val (.int (Int32.ofNat ta)), .val (.int (Int32.ofNat ub)), .val (.int B8), .val (.int B9), .val (.int B10), .val (.int B11), .val (.int B12), .unset, .unset, .unset, .unset, .unset, .unset, .unset, .unset, .unset, .unset, .unset, .unset, .unset, .unset]) rfl kk_) ?_
  show own_G p e below s _ _ _ (T5.setTop (mkF m 61 #[.val (.int x0), .val (.int x1), .val (.int x2), .val (.int x3), .val (.int x4), .val (.int x5), .val (.int (Int32.ofNat ta)), .val (.int (Int32.ofNat ub)), .val (.int B8), .val (.int B9), .val (.int B10), .val (.int B11), .val (.int B12), .unset, .unset, .unset, .unset, .unset, .unset, .unset, .unset, .unset, .unset, .unset, .unset, .unset, .unset] []))
  refine own_go (fun _ kk_ => XS.iload X5.here hx rfl (hb hby at_61) rfl kk_) ?_
  show own_G p e below s _ _ _ (T5.setTop (mkF m 63 #[.val (.int x0), .val (.int x1), .val (.int x2), .val (.int x3), .val (.int x4), .val (.int x5), .val (.int (Int32.ofNat ta)), .val (.int (Int32.ofNat ub)), .val (.int B8), .val (.int B9), .val (.int B10), .val (.int B11), .val (.int B12), .unset, .unset, .unset, .unset, .unset, .unset, .unset, .unset, .unset, .unset, .unset, .unset, .unset, .unset] [(.int x4)]))
  refine own_go (fun _ kk_ => XS.bipush X5.here hx rfl (hb hby at_63) kk_) ?_
  show own_G p e below s _ _ _ (T5.setTop (mkF m 65 #[.val (.int x0), .val (.int x1), .val (.int x2), .val (.int x3), .val (.int x4), .val (.int x5), .val (.int (Int32.ofNat ta)), .val (.int (Int32.ofNat ub)), .val (.int B8), .val (.int B9), .val (.int B10), .val (.int B11), .val (.int B12), .unset, .unset, .unset, .unset, .unset, .unset, .unset, .unset, .unset, .unset, .unset, .unset, .unset, .unset] [(.int (9 : Int32)), (.int x4)]))
  obtain ⟨_, _, ⟨T6, L6, k6, n6⟩, -, X6, ⟨Lc6, hQ6, l6, y6, z6⟩, st6⟩ := Jvm.LawKit.callS X5 hx (y := (⟨"com/example/relyguard/relyguard/FootprintDependsOnPinLaw", "bit", "(II)Z"⟩ : MethodName)) hown (mvT hZ (hw _ (List.mem_of_getElem? (i := 0) rfl))) (mvT hZ (hw _ (List.mem_of_getElem? (i := 1) rfl))) (mvT hZ (hw _ (List.mem_of_getElem? (i := 2) rfl))) (mvT hZ (hw _ (List.mem_of_getElem? (i := 3) rfl))) (by decide) (backOf (W := 0) (rmBit l Z a0 hw [] x4 (9 : Int32) h0 n0 Z0) hZ (hw _ (List.mem_of_getElem? (i := 3) rfl)) (hw _ (List.mem_of_getElem? (i := 2) rfl)) (by decide) (by decide)) (g := (mkF m 65 #[.val (.int x0), .val (.int x1), .val (.int x2), .val (.int x3), .val (.int x4), .val (.int x5), .val (.int (Int32.ofNat ta)), .val (.int (Int32.ofNat ub)), .val (.int B8), .val (.int B9), .val (.int B10), .val (.int B11), .val (.int B12), .unset, .unset, .unset, .unset, .unset, .unset, .unset, .unset, .unset, .unset, .unset, .unset, .unset, .unset] [(.int (9 : Int32)), (.int x4)])) rfl (by rw [hml]; rfl) (argsL := [(.int x4), (.int (9 : Int32))]) (rest := []) (lenOf pd_3 rfl) rfl (by show 2 * 0 + _ ≤ _; exact Nat.le_of_eq rfl) (hb hby at_65) (fun _ _ => ⟨rfl, e5, (by decide : 0 + 0 ≤ _), (by decide : 0 + 0 ≤ _)⟩)
  dsimp only [Pt.U, Pt.locs, Pt.cells, Pt.slots] at X6 l6 y6 z6 st6 hQ6
  subst l6 y6 z6
  obtain ⟨B13, rfl, N6q, e6, hB13⟩ := hQ6
  have N6 := Fr.app N5 N6q
  refine own_go st6 ?_
  show own_G p e below s _ _ _ (T6.setTop (mkF m 68 #[.val (.int x0), .val (.int x1), .val (.int x2), .val (.int x3), .val (.int x4), .val (.int x5), .val (.int (Int32.ofNat ta)), .val (.int (Int32.ofNat ub)), .val (.int B8), .val (.int B9), .val (.int B10), .val (.int B11), .val (.int B12), .unset, .unset, .unset, .unset, .unset, .unset, .unset, .unset, .unset, .unset, .unset, .unset, .unset, .unset] [(.int B13)]))
  refine own_go (fun _ kk_ => XS.istore X6.here hx rfl (hb hby at_68) rfl (l' := #[.val (.int x0), .val (.int x1), .val (.int x2), .val (.int x3), .val (.int x4), .val (.int x5), .val (.int (Int32.ofNat ta)), .val (.int (Int32.ofNat ub)), .val (.int B8), .val (.int B9), .val (.int B10), .val (.int B11), .val (.int B12), .val (.int B13), .unset, .unset, .unset, .unset, .unset, .unset, .unset, .unset, .unset, .unset, .unset, .unset, .unset]) rfl kk_) ?_
  show own_G p e below s _ _ _ (T6.setTop (mkF m 70 #[.val (.int x0), .val (.int x1), .val (.int x2), .val (.int x3), .val (.int x4), .val (.int x5), .val (.int (Int32.ofNat ta)), .val (.int (Int32.ofNat ub)), .val (.int B8), .val (.int B9), .val (.int B10), .val (.int B11), .val (.int B12), .val (.int B13), .unset, .unset, .unset, .unset, .unset, .unset, .unset, .unset, .unset, .unset, .unset, .unset, .unset] []))
  refine own_go (fun _ kk_ => XS.iload X6.here hx rfl (hb hby at_70) rfl kk_) ?_
  show own_G p e below s _ _ _ (T6.setTop (mkF m 72 #[.val (.int x0), .val (.int x1), .val (.int x2), .val (.int x3), .val (.int x4), .val (.int x5), .val (.int (Int32.ofNat ta)), .val (.int (Int32.ofNat ub)), .val (.int B8), .val (.int B9), .val (.int B10), .val (.int B11), .val (.int B12), .val (.int B13), .unset, .unset, .unset, .unset, .unset, .unset, .unset, .unset, .unset, .unset, .unset, .unset, .unset] [(.int x4)]))
  refine own_go (fun _ kk_ => XS.bipush X6.here hx rfl (hb hby at_72) kk_) ?_
  show own_G p e below s _ _ _ (T6.setTop (mkF m 74 #[.val (.int x0), .val (.int x1), .val (.int x2), .val (.int x3), .val (.int x4), .val (.int x5), .val (.int (Int32.ofNat ta)), .val (.int (Int32.ofNat ub)), .val (.int B8), .val (.int B9), .val (.int B10), .val (.int B11), .val (.int B12), .val (.int B13), .unset, .unset, .unset, .unset, .unset, .unset, .unset, .unset, .unset, .unset, .unset, .unset, .unset] [(.int (10 : Int32)), (.int x4)]))
  obtain ⟨_, _, ⟨T7, L7, k7, n7⟩, -, X7, ⟨Lc7, hQ7, l7, y7, z7⟩, st7⟩ := Jvm.LawKit.callS X6 hx (y := (⟨"com/example/relyguard/relyguard/FootprintDependsOnPinLaw", "bit", "(II)Z"⟩ : MethodName)) hown (mvT hZ (hw _ (List.mem_of_getElem? (i := 0) rfl))) (mvT hZ (hw _ (List.mem_of_getElem? (i := 1) rfl))) (mvT hZ (hw _ (List.mem_of_getElem? (i := 2) rfl))) (mvT hZ (hw _ (List.mem_of_getElem? (i := 3) rfl))) (by decide) (backOf (W := 0) (rmBit l Z a0 hw [] x4 (10 : Int32) h0 n0 Z0) hZ (hw _ (List.mem_of_getElem? (i := 3) rfl)) (hw _ (List.mem_of_getElem? (i := 2) rfl)) (by decide) (by decide)) (g := (mkF m 74 #[.val (.int x0), .val (.int x1), .val (.int x2), .val (.int x3), .val (.int x4), .val (.int x5), .val (.int (Int32.ofNat ta)), .val (.int (Int32.ofNat ub)), .val (.int B8), .val (.int B9), .val (.int B10), .val (.int B11), .val (.int B12), .val (.int B13), .unset, .unset, .unset, .unset, .unset, .unset, .unset, .unset, .unset, .unset, .unset, .unset, .unset] [(.int (10 : Int32)), (.int x4)])) rfl (by rw [hml]; rfl) (argsL := [(.int x4), (.int (10 : Int32))]) (rest := []) (lenOf pd_3 rfl) rfl (by show 2 * 0 + _ ≤ _; exact Nat.le_of_eq rfl) (hb hby at_74) (fun _ _ => ⟨rfl, e6, (by decide : 0 + 0 ≤ _), (by decide : 0 + 0 ≤ _)⟩)
  dsimp only [Pt.U, Pt.locs, Pt.cells, Pt.slots] at X7 l7 y7 z7 st7 hQ7
  subst l7 y7 z7
  obtain ⟨B14, rfl, N7q, e7, hB14⟩ := hQ7
  have N7 := Fr.app N6 N7q
  refine own_go st7 ?_
  show own_G p e below s _ _ _ (T7.setTop (mkF m 77 #[.val (.int x0), .val (.int x1), .val (.int x2), .val (.int x3), .val (.int x4), .val (.int x5), .val (.int (Int32.ofNat ta)), .val (.int (Int32.ofNat ub)), .val (.int B8), .val (.int B9), .val (.int B10), .val (.int B11), .val (.int B12), .val (.int B13), .unset, .unset, .unset, .unset, .unset, .unset, .unset, .unset, .unset, .unset, .unset, .unset, .unset] [(.int B14)]))
  refine own_go (fun _ kk_ => XS.istore X7.here hx rfl (hb hby at_77) rfl (l' := #[.val (.int x0), .val (.int x1), .val (.int x2), .val (.int x3), .val (.int x4), .val (.int x5), .val (.int (Int32.ofNat ta)), .val (.int (Int32.ofNat ub)), .val (.int B8), .val (.int B9), .val (.int B10), .val (.int B11), .val (.int B12), .val (.int B13), .val (.int B14), .unset, .unset, .unset, .unset, .unset, .unset, .unset, .unset, .unset, .unset, .unset, .unset]) rfl kk_) ?_
  show own_G p e below s _ _ _ (T7.setTop (mkF m 79 #[.val (.int x0), .val (.int x1), .val (.int x2), .val (.int x3), .val (.int x4), .val (.int x5), .val (.int (Int32.ofNat ta)), .val (.int (Int32.ofNat ub)), .val (.int B8), .val (.int B9), .val (.int B10), .val (.int B11), .val (.int B12), .val (.int B13), .val (.int B14), .unset, .unset, .unset, .unset, .unset, .unset, .unset, .unset, .unset, .unset, .unset, .unset] []))
  refine own_go (fun _ kk_ => XS.iload X7.here hx rfl (hb hby at_79) rfl kk_) ?_
  show own_G p e below s _ _ _ (T7.setTop (mkF m 81 #[.val (.int x0), .val (.int x1), .val (.int x2), .val (.int x3), .val (.int x4), .val (.int x5), .val (.int (Int32.ofNat ta)), .val (.int (Int32.ofNat ub)), .val (.int B8), .val (.int B9), .val (.int B10), .val (.int B11), .val (.int B12), .val (.int B13), .val (.int B14), .unset, .unset, .unset, .unset, .unset, .unset, .unset, .unset, .unset, .unset, .unset, .unset] [(.int x4)]))
  refine own_go (fun _ kk_ => XS.bipush X7.here hx rfl (hb hby at_81) kk_) ?_
  show own_G p e below s _ _ _ (T7.setTop (mkF m 83 #[.val (.int x0), .val (.int x1), .val (.int x2), .val (.int x3), .val (.int x4), .val (.int x5), .val (.int (Int32.ofNat ta)), .val (.int (Int32.ofNat ub)), .val (.int B8), .val (.int B9), .val (.int B10), .val (.int B11), .val (.int B12), .val (.int B13), .val (.int B14), .unset, .unset, .unset, .unset, .unset, .unset, .unset, .unset, .unset, .unset, .unset, .unset] [(.int (11 : Int32)), (.int x4)]))
  obtain ⟨_, _, ⟨T8, L8, k8, n8⟩, -, X8, ⟨Lc8, hQ8, l8, y8, z8⟩, st8⟩ := Jvm.LawKit.callS X7 hx (y := (⟨"com/example/relyguard/relyguard/FootprintDependsOnPinLaw", "bit", "(II)Z"⟩ : MethodName)) hown (mvT hZ (hw _ (List.mem_of_getElem? (i := 0) rfl))) (mvT hZ (hw _ (List.mem_of_getElem? (i := 1) rfl))) (mvT hZ (hw _ (List.mem_of_getElem? (i := 2) rfl))) (mvT hZ (hw _ (List.mem_of_getElem? (i := 3) rfl))) (by decide) (backOf (W := 0) (rmBit l Z a0 hw [] x4 (11 : Int32) h0 n0 Z0) hZ (hw _ (List.mem_of_getElem? (i := 3) rfl)) (hw _ (List.mem_of_getElem? (i := 2) rfl)) (by decide) (by decide)) (g := (mkF m 83 #[.val (.int x0), .val (.int x1), .val (.int x2), .val (.int x3), .val (.int x4), .val (.int x5), .val (.int (Int32.ofNat ta)), .val (.int (Int32.ofNat ub)), .val (.int B8), .val (.int B9), .val (.int B10), .val (.int B11), .val (.int B12), .val (.int B13), .val (.int B14), .unset, .unset, .unset, .unset, .unset, .unset, .unset, .unset, .unset, .unset, .unset, .unset] [(.int (11 : Int32)), (.int x4)])) rfl (by rw [hml]; rfl) (argsL := [(.int x4), (.int (11 : Int32))]) (rest := []) (lenOf pd_3 rfl) rfl (by show 2 * 0 + _ ≤ _; exact Nat.le_of_eq rfl) (hb hby at_83) (fun _ _ => ⟨rfl, e7, (by decide : 0 + 0 ≤ _), (by decide : 0 + 0 ≤ _)⟩)
  dsimp only [Pt.U, Pt.locs, Pt.cells, Pt.slots] at X8 l8 y8 z8 st8 hQ8
  subst l8 y8 z8
  obtain ⟨B15, rfl, N8q, e8, hB15⟩ := hQ8
  have N8 := Fr.app N7 N8q
  refine own_go st8 ?_
  show own_G p e below s _ _ _ (T8.setTop (mkF m 86 #[.val (.int x0), .val (.int x1), .val (.int x2), .val (.int x3), .val (.int x4), .val (.int x5), .val (.int (Int32.ofNat ta)), .val (.int (Int32.ofNat ub)), .val (.int B8), .val (.int B9), .val (.int B10), .val (.int B11), .val (.int B12), .val (.int B13), .val (.int B14), .unset, .unset, .unset, .unset, .unset, .unset, .unset, .unset, .unset, .unset, .unset, .unset] [(.int B15)]))
  refine own_go (fun _ kk_ => XS.istore X8.here hx rfl (hb hby at_86) rfl (l' := #[.val (.int x0), .val (.int x1), .val (.int x2), .val (.int x3), .val (.int x4), .val (.int x5), .val (.int (Int32.ofNat ta)), .val (.int (Int32.ofNat ub)), .val (.int B8), .val (.int B9), .val (.int B10), .val (.int B11), .val (.int B12), .val (.int B13), .val (.int B14), .val (.int B15), .unset, .unset, .unset, .unset, .unset, .unset, .unset, .unset, .unset, .unset, .unset]) rfl kk_) ?_
  show own_G p e below s _ _ _ (T8.setTop (mkF m 88 #[.val (.int x0), .val (.int x1), .val (.int x2), .val (.int x3), .val (.int x4), .val (.int x5), .val (.int (Int32.ofNat ta)), .val (.int (Int32.ofNat ub)), .val (.int B8), .val (.int B9), .val (.int B10), .val (.int B11), .val (.int B12), .val (.int B13), .val (.int B14), .val (.int B15), .unset, .unset, .unset, .unset, .unset, .unset, .unset, .unset, .unset, .unset, .unset] []))
  refine own_go (fun _ kk_ => XS.iload X8.here hx rfl (hb hby at_88) rfl kk_) ?_
  show own_G p e below s _ _ _ (T8.setTop (mkF m 90 #[.val (.int x0), .val (.int x1), .val (.int x2), .val (.int x3), .val (.int x4), .val (.int x5), .val (.int (Int32.ofNat ta)), .val (.int (Int32.ofNat ub)), .val (.int B8), .val (.int B9), .val (.int B10), .val (.int B11), .val (.int B12), .val (.int B13), .val (.int B14), .val (.int B15), .unset, .unset, .unset, .unset, .unset, .unset, .unset, .unset, .unset, .unset, .unset] [(.int x4)]))
  refine own_go (fun _ kk_ => XS.bipush X8.here hx rfl (hb hby at_90) kk_) ?_
  show own_G p e below s _ _ _ (T8.setTop (mkF m 92 #[.val (.int x0), .val (.int x1), .val (.int x2), .val (.int x3), .val (.int x4), .val (.int x5), .val (.int (Int32.ofNat ta)), .val (.int (Int32.ofNat ub)), .val (.int B8), .val (.int B9), .val (.int B10), .val (.int B11), .val (.int B12), .val (.int B13), .val (.int B14), .val (.int B15), .unset, .unset, .unset, .unset, .unset, .unset, .unset, .unset, .unset, .unset, .unset] [(.int (12 : Int32)), (.int x4)]))
  obtain ⟨_, _, ⟨T9, L9, k9, n9⟩, -, X9, ⟨Lc9, hQ9, l9, y9, z9⟩, st9⟩ := Jvm.LawKit.callS X8 hx (y := (⟨"com/example/relyguard/relyguard/FootprintDependsOnPinLaw", "bit", "(II)Z"⟩ : MethodName)) hown (mvT hZ (hw _ (List.mem_of_getElem? (i := 0) rfl))) (mvT hZ (hw _ (List.mem_of_getElem? (i := 1) rfl))) (mvT hZ (hw _ (List.mem_of_getElem? (i := 2) rfl))) (mvT hZ (hw _ (List.mem_of_getElem? (i := 3) rfl))) (by decide) (backOf (W := 0) (rmBit l Z a0 hw [] x4 (12 : Int32) h0 n0 Z0) hZ (hw _ (List.mem_of_getElem? (i := 3) rfl)) (hw _ (List.mem_of_getElem? (i := 2) rfl)) (by decide) (by decide)) (g := (mkF m 92 #[.val (.int x0), .val (.int x1), .val (.int x2), .val (.int x3), .val (.int x4), .val (.int x5), .val (.int (Int32.ofNat ta)), .val (.int (Int32.ofNat ub)), .val (.int B8), .val (.int B9), .val (.int B10), .val (.int B11), .val (.int B12), .val (.int B13), .val (.int B14), .val (.int B15), .unset, .unset, .unset, .unset, .unset, .unset, .unset, .unset, .unset, .unset, .unset] [(.int (12 : Int32)), (.int x4)])) rfl (by rw [hml]; rfl) (argsL := [(.int x4), (.int (12 : Int32))]) (rest := []) (lenOf pd_3 rfl) rfl (by show 2 * 0 + _ ≤ _; exact Nat.le_of_eq rfl) (hb hby at_92) (fun _ _ => ⟨rfl, e8, (by decide : 0 + 0 ≤ _), (by decide : 0 + 0 ≤ _)⟩)
  dsimp only [Pt.U, Pt.locs, Pt.cells, Pt.slots] at X9 l9 y9 z9 st9 hQ9
  subst l9 y9 z9
  obtain ⟨B16, rfl, N9q, e9, hB16⟩ := hQ9
  have N9 := Fr.app N8 N9q
  refine own_go st9 ?_
  show own_G p e below s _ _ _ (T9.setTop (mkF m 95 #[.val (.int x0), .val (.int x1), .val (.int x2), .val (.int x3), .val (.int x4), .val (.int x5), .val (.int (Int32.ofNat ta)), .val (.int (Int32.ofNat ub)), .val (.int B8), .val (.int B9), .val (.int B10), .val (.int B11), .val (.int B12), .val (.int B13), .val (.int B14), .val (.int B15), .unset, .unset, .unset, .unset, .unset, .unset, .unset, .unset, .unset, .unset, .unset] [(.int B16)]))
  refine own_go (fun _ kk_ => XS.istore X9.here hx rfl (hb hby at_95) rfl (l' := #[.val (.int x0), .val (.int x1), .val (.int x2), .val (.int x3), .val (.int x4), .val (.int x5), .val (.int (Int32.ofNat ta)), .val (.int (Int32.ofNat ub)), .val (.int B8), .val (.int B9), .val (.int B10), .val (.int B11), .val (.int B12), .val (.int B13), .val (.int B14), .val (.int B15), .val (.int B16), .unset, .unset, .unset, .unset, .unset, .unset, .unset, .unset, .unset, .unset]) rfl kk_) ?_
  show own_G p e below s _ _ _ (T9.setTop (mkF m 97 #[.val (.int x0), .val (.int x1), .val (.int x2), .val (.int x3), .val (.int x4), .val (.int x5), .val (.int (Int32.ofNat ta)), .val (.int (Int32.ofNat ub)), .val (.int B8), .val (.int B9), .val (.int B10), .val (.int B11), .val (.int B12), .val (.int B13), .val (.int B14), .val (.int B15), .val (.int B16), .unset, .unset, .unset, .unset, .unset, .unset, .unset, .unset, .unset, .unset] []))
  refine own_go (fun _ kk_ => XS.iload X9.here hx rfl (hb hby at_97) rfl kk_) ?_
  show own_G p e below s _ _ _ (T9.setTop (mkF m 99 #[.val (.int x0), .val (.int x1), .val (.int x2), .val (.int x3), .val (.int x4), .val (.int x5), .val (.int (Int32.ofNat ta)), .val (.int (Int32.ofNat ub)), .val (.int B8), .val (.int B9), .val (.int B10), .val (.int B11), .val (.int B12), .val (.int B13), .val (.int B14), .val (.int B15), .val (.int B16), .unset, .unset, .unset, .unset, .unset, .unset, .unset, .unset, .unset, .unset] [(.int x4)]))
  refine own_go (fun _ kk_ => XS.bipush X9.here hx rfl (hb hby at_99) kk_) ?_
  show own_G p e below s _ _ _ (T9.setTop (mkF m 101 #[.val (.int x0), .val (.int x1), .val (.int x2), .val (.int x3), .val (.int x4), .val (.int x5), .val (.int (Int32.ofNat ta)), .val (.int (Int32.ofNat ub)), .val (.int B8), .val (.int B9), .val (.int B10), .val (.int B11), .val (.int B12), .val (.int B13), .val (.int B14), .val (.int B15), .val (.int B16), .unset, .unset, .unset, .unset, .unset, .unset, .unset, .unset, .unset, .unset] [(.int (13 : Int32)), (.int x4)]))
  obtain ⟨_, _, ⟨T10, L10, k10, n10⟩, -, X10, ⟨Lc10, hQ10, l10, y10, z10⟩, st10⟩ := Jvm.LawKit.callS X9 hx (y := (⟨"com/example/relyguard/relyguard/FootprintDependsOnPinLaw", "bit", "(II)Z"⟩ : MethodName)) hown (mvT hZ (hw _ (List.mem_of_getElem? (i := 0) rfl))) (mvT hZ (hw _ (List.mem_of_getElem? (i := 1) rfl))) (mvT hZ (hw _ (List.mem_of_getElem? (i := 2) rfl))) (mvT hZ (hw _ (List.mem_of_getElem? (i := 3) rfl))) (by decide) (backOf (W := 0) (rmBit l Z a0 hw [] x4 (13 : Int32) h0 n0 Z0) hZ (hw _ (List.mem_of_getElem? (i := 3) rfl)) (hw _ (List.mem_of_getElem? (i := 2) rfl)) (by decide) (by decide)) (g := (mkF m 101 #[.val (.int x0), .val (.int x1), .val (.int x2), .val (.int x3), .val (.int x4), .val (.int x5), .val (.int (Int32.ofNat ta)), .val (.int (Int32.ofNat ub)), .val (.int B8), .val (.int B9), .val (.int B10), .val (.int B11), .val (.int B12), .val (.int B13), .val (.int B14), .val (.int B15), .val (.int B16), .unset, .unset, .unset, .unset, .unset, .unset, .unset, .unset, .unset, .unset] [(.int (13 : Int32)), (.int x4)])) rfl (by rw [hml]; rfl) (argsL := [(.int x4), (.int (13 : Int32))]) (rest := []) (lenOf pd_3 rfl) rfl (by show 2 * 0 + _ ≤ _; exact Nat.le_of_eq rfl) (hb hby at_101) (fun _ _ => ⟨rfl, e9, (by decide : 0 + 0 ≤ _), (by decide : 0 + 0 ≤ _)⟩)
  dsimp only [Pt.U, Pt.locs, Pt.cells, Pt.slots] at X10 l10 y10 z10 st10 hQ10
  subst l10 y10 z10
  obtain ⟨B17, rfl, N10q, e10, hB17⟩ := hQ10
  have N10 := Fr.app N9 N10q
  refine own_go st10 ?_
  show own_G p e below s _ _ _ (T10.setTop (mkF m 104 #[.val (.int x0), .val (.int x1), .val (.int x2), .val (.int x3), .val (.int x4), .val (.int x5), .val (.int (Int32.ofNat ta)), .val (.int (Int32.ofNat ub)), .val (.int B8), .val (.int B9), .val (.int B10), .val (.int B11), .val (.int B12), .val (.int B13), .val (.int B14), .val (.int B15), .val (.int B16), .unset, .unset, .unset, .unset, .unset, .unset, .unset, .unset, .unset, .unset] [(.int B17)]))
  refine own_go (fun _ kk_ => XS.istore X10.here hx rfl (hb hby at_104) rfl (l' := #[.val (.int x0), .val (.int x1), .val (.int x2), .val (.int x3), .val (.int x4), .val (.int x5), .val (.int (Int32.ofNat ta)), .val (.int (Int32.ofNat ub)), .val (.int B8), .val (.int B9), .val (.int B10), .val (.int B11), .val (.int B12), .val (.int B13), .val (.int B14), .val (.int B15), .val (.int B16), .val (.int B17), .unset, .unset, .unset, .unset, .unset, .unset, .unset, .unset, .unset]) rfl kk_) ?_
  show own_G p e below s _ _ _ (T10.setTop (mkF m 106 #[.val (.int x0), .val (.int x1), .val (.int x2), .val (.int x3), .val (.int x4), .val (.int x5), .val (.int (Int32.ofNat ta)), .val (.int (Int32.ofNat ub)), .val (.int B8), .val (.int B9), .val (.int B10), .val (.int B11), .val (.int B12), .val (.int B13), .val (.int B14), .val (.int B15), .val (.int B16), .val (.int B17), .unset, .unset, .unset, .unset, .unset, .unset, .unset, .unset, .unset] []))
  refine own_go (fun _ kk_ => XS.iloadN X10.here hx rfl (hb hby at_106) rfl kk_) ?_
  show own_G p e below s _ _ _ (T10.setTop (mkF m 107 #[.val (.int x0), .val (.int x1), .val (.int x2), .val (.int x3), .val (.int x4), .val (.int x5), .val (.int (Int32.ofNat ta)), .val (.int (Int32.ofNat ub)), .val (.int B8), .val (.int B9), .val (.int B10), .val (.int B11), .val (.int B12), .val (.int B13), .val (.int B14), .val (.int B15), .val (.int B16), .val (.int B17), .unset, .unset, .unset, .unset, .unset, .unset, .unset, .unset, .unset] [(.int x0)]))
  refine own_go (fun _ kk_ => XS.istore X10.here hx rfl (hb hby at_107) rfl (l' := #[.val (.int x0), .val (.int x1), .val (.int x2), .val (.int x3), .val (.int x4), .val (.int x5), .val (.int (Int32.ofNat ta)), .val (.int (Int32.ofNat ub)), .val (.int B8), .val (.int B9), .val (.int B10), .val (.int B11), .val (.int B12), .val (.int B13), .val (.int B14), .val (.int B15), .val (.int B16), .val (.int B17), .val (.int x0), .unset, .unset, .unset, .unset, .unset, .unset, .unset, .unset]) rfl kk_) ?_
  show own_G p e below s _ _ _ (T10.setTop (mkF m 109 #[.val (.int x0), .val (.int x1), .val (.int x2), .val (.int x3), .val (.int x4), .val (.int x5), .val (.int (Int32.ofNat ta)), .val (.int (Int32.ofNat ub)), .val (.int B8), .val (.int B9), .val (.int B10), .val (.int B11), .val (.int B12), .val (.int B13), .val (.int B14), .val (.int B15), .val (.int B16), .val (.int B17), .val (.int x0), .unset, .unset, .unset, .unset, .unset, .unset, .unset, .unset] []))
  refine own_go (fun _ kk_ => XS.iloadN X10.here hx rfl (hb hby at_109) rfl kk_) ?_
  show own_G p e below s _ _ _ (T10.setTop (mkF m 110 #[.val (.int x0), .val (.int x1), .val (.int x2), .val (.int x3), .val (.int x4), .val (.int x5), .val (.int (Int32.ofNat ta)), .val (.int (Int32.ofNat ub)), .val (.int B8), .val (.int B9), .val (.int B10), .val (.int B11), .val (.int B12), .val (.int B13), .val (.int B14), .val (.int B15), .val (.int B16), .val (.int B17), .val (.int x0), .unset, .unset, .unset, .unset, .unset, .unset, .unset, .unset] [(.int x1)]))
  refine own_go (fun _ kk_ => XS.istore X10.here hx rfl (hb hby at_110) rfl (l' := #[.val (.int x0), .val (.int x1), .val (.int x2), .val (.int x3), .val (.int x4), .val (.int x5), .val (.int (Int32.ofNat ta)), .val (.int (Int32.ofNat ub)), .val (.int B8), .val (.int B9), .val (.int B10), .val (.int B11), .val (.int B12), .val (.int B13), .val (.int B14), .val (.int B15), .val (.int B16), .val (.int B17), .val (.int x0), .val (.int x1), .unset, .unset, .unset, .unset, .unset, .unset, .unset]) rfl kk_) ?_
  show own_G p e below s _ _ _ (T10.setTop (mkF m 112 #[.val (.int x0), .val (.int x1), .val (.int x2), .val (.int x3), .val (.int x4), .val (.int x5), .val (.int (Int32.ofNat ta)), .val (.int (Int32.ofNat ub)), .val (.int B8), .val (.int B9), .val (.int B10), .val (.int B11), .val (.int B12), .val (.int B13), .val (.int B14), .val (.int B15), .val (.int B16), .val (.int B17), .val (.int x0), .val (.int x1), .unset, .unset, .unset, .unset, .unset, .unset, .unset] []))
  refine own_go (fun _ kk_ => XS.iload X10.here hx rfl (hb hby at_112) rfl kk_) ?_
  show own_G p e below s _ _ _ (T10.setTop (mkF m 114 #[.val (.int x0), .val (.int x1), .val (.int x2), .val (.int x3), .val (.int x4), .val (.int x5), .val (.int (Int32.ofNat ta)), .val (.int (Int32.ofNat ub)), .val (.int B8), .val (.int B9), .val (.int B10), .val (.int B11), .val (.int B12), .val (.int B13), .val (.int B14), .val (.int B15), .val (.int B16), .val (.int B17), .val (.int x0), .val (.int x1), .unset, .unset, .unset, .unset, .unset, .unset, .unset] [(.int x5)]))
  refine own_go (fun _ kk_ => XS.iconst X10.here hx rfl (hb hby at_114) kk_) ?_
  show own_G p e below s _ _ _ (T10.setTop (mkF m 115 #[.val (.int x0), .val (.int x1), .val (.int x2), .val (.int x3), .val (.int x4), .val (.int x5), .val (.int (Int32.ofNat ta)), .val (.int (Int32.ofNat ub)), .val (.int B8), .val (.int B9), .val (.int B10), .val (.int B11), .val (.int B12), .val (.int B13), .val (.int B14), .val (.int B15), .val (.int B16), .val (.int B17), .val (.int x0), .val (.int x1), .unset, .unset, .unset, .unset, .unset, .unset, .unset] [(.int (3 : Int32)), (.int x5)]))
  refine own_go (fun _ kk_ => XS.iand X10.here hx rfl (hb hby at_115) rfl kk_) ?_
  show own_G p e below s _ _ _ (T10.setTop (mkF m 116 #[.val (.int x0), .val (.int x1), .val (.int x2), .val (.int x3), .val (.int x4), .val (.int x5), .val (.int (Int32.ofNat ta)), .val (.int (Int32.ofNat ub)), .val (.int B8), .val (.int B9), .val (.int B10), .val (.int B11), .val (.int B12), .val (.int B13), .val (.int B14), .val (.int B15), .val (.int B16), .val (.int B17), .val (.int x0), .val (.int x1), .unset, .unset, .unset, .unset, .unset, .unset, .unset] [(.int (x5 &&& (3 : Int32)))]))
  refine own_go (fun _ kk_ => XS.iloadN X10.here hx rfl (hb hby at_116) rfl kk_) ?_
  show own_G p e below s _ _ _ (T10.setTop (mkF m 117 #[.val (.int x0), .val (.int x1), .val (.int x2), .val (.int x3), .val (.int x4), .val (.int x5), .val (.int (Int32.ofNat ta)), .val (.int (Int32.ofNat ub)), .val (.int B8), .val (.int B9), .val (.int B10), .val (.int B11), .val (.int B12), .val (.int B13), .val (.int B14), .val (.int B15), .val (.int B16), .val (.int B17), .val (.int x0), .val (.int x1), .unset, .unset, .unset, .unset, .unset, .unset, .unset] [(.int x2), (.int (x5 &&& (3 : Int32)))]))
  refine own_go (fun _ kk_ => XS.iloadN X10.here hx rfl (hb hby at_117) rfl kk_) ?_
  show own_G p e below s _ _ _ (T10.setTop (mkF m 118 #[.val (.int x0), .val (.int x1), .val (.int x2), .val (.int x3), .val (.int x4), .val (.int x5), .val (.int (Int32.ofNat ta)), .val (.int (Int32.ofNat ub)), .val (.int B8), .val (.int B9), .val (.int B10), .val (.int B11), .val (.int B12), .val (.int B13), .val (.int B14), .val (.int B15), .val (.int B16), .val (.int B17), .val (.int x0), .val (.int x1), .unset, .unset, .unset, .unset, .unset, .unset, .unset] [(.int x0), (.int x2), (.int (x5 &&& (3 : Int32)))]))
  refine own_go (fun _ kk_ => XS.iloadN X10.here hx rfl (hb hby at_118) rfl kk_) ?_
  show own_G p e below s _ _ _ (T10.setTop (mkF m 119 #[.val (.int x0), .val (.int x1), .val (.int x2), .val (.int x3), .val (.int x4), .val (.int x5), .val (.int (Int32.ofNat ta)), .val (.int (Int32.ofNat ub)), .val (.int B8), .val (.int B9), .val (.int B10), .val (.int B11), .val (.int B12), .val (.int B13), .val (.int B14), .val (.int B15), .val (.int B16), .val (.int B17), .val (.int x0), .val (.int x1), .unset, .unset, .unset, .unset, .unset, .unset, .unset] [(.int x1), (.int x0), (.int x2), (.int (x5 &&& (3 : Int32)))]))
  obtain ⟨_, _, ⟨T11, L11, k11, n11⟩, -, X11, ⟨Lc11, hQ11, l11, y11, z11⟩, st11⟩ := Jvm.LawKit.callS X10 hx (y := (⟨"com/example/relyguard/relyguard/FootprintDependsOnPinLaw", "pick", "(IIII)I"⟩ : MethodName)) hown (mvT hZ (hw _ (List.mem_of_getElem? (i := 4) rfl))) (mvT hZ (hw _ (List.mem_of_getElem? (i := 5) rfl))) (mvT hZ (hw _ (List.mem_of_getElem? (i := 2) rfl))) (mvT hZ (hw _ (List.mem_of_getElem? (i := 6) rfl))) (by decide) (backOf (W := 0) (rmPick l Z a0 hw [] (x5 &&& (3 : Int32)) x2 x0 x1 h0 n0 Z0) hZ (hw _ (List.mem_of_getElem? (i := 6) rfl)) (hw _ (List.mem_of_getElem? (i := 2) rfl)) (by decide) (by decide)) (g := (mkF m 119 #[.val (.int x0), .val (.int x1), .val (.int x2), .val (.int x3), .val (.int x4), .val (.int x5), .val (.int (Int32.ofNat ta)), .val (.int (Int32.ofNat ub)), .val (.int B8), .val (.int B9), .val (.int B10), .val (.int B11), .val (.int B12), .val (.int B13), .val (.int B14), .val (.int B15), .val (.int B16), .val (.int B17), .val (.int x0), .val (.int x1), .unset, .unset, .unset, .unset, .unset, .unset, .unset] [(.int x1), (.int x0), (.int x2), (.int (x5 &&& (3 : Int32)))])) rfl (by rw [hml]; rfl) (argsL := [(.int (x5 &&& (3 : Int32))), (.int x2), (.int x0), (.int x1)]) (rest := []) (lenOf pd_4 rfl) rfl (by show 2 * 0 + _ ≤ _; exact Nat.le_of_eq rfl) (hb hby at_119) (fun _ _ => ⟨rfl, e10, (by decide : 0 + 0 ≤ _), (by decide : 0 + 0 ≤ _)⟩)
  dsimp only [Pt.U, Pt.locs, Pt.cells, Pt.slots] at X11 l11 y11 z11 st11 hQ11
  subst l11 y11 z11
  obtain ⟨P20, rfl, N11q, e11⟩ := hQ11
  have N11 := Fr.app N10 N11q
  refine own_go st11 ?_
  show own_G p e below s _ _ _ (T11.setTop (mkF m 122 #[.val (.int x0), .val (.int x1), .val (.int x2), .val (.int x3), .val (.int x4), .val (.int x5), .val (.int (Int32.ofNat ta)), .val (.int (Int32.ofNat ub)), .val (.int B8), .val (.int B9), .val (.int B10), .val (.int B11), .val (.int B12), .val (.int B13), .val (.int B14), .val (.int B15), .val (.int B16), .val (.int B17), .val (.int x0), .val (.int x1), .unset, .unset, .unset, .unset, .unset, .unset, .unset] [(.int P20)]))
  refine own_go (fun _ kk_ => XS.istore X11.here hx rfl (hb hby at_122) rfl (l' := #[.val (.int x0), .val (.int x1), .val (.int x2), .val (.int x3), .val (.int x4), .val (.int x5), .val (.int (Int32.ofNat ta)), .val (.int (Int32.ofNat ub)), .val (.int B8), .val (.int B9), .val (.int B10), .val (.int B11), .val (.int B12), .val (.int B13), .val (.int B14), .val (.int B15), .val (.int B16), .val (.int B17), .val (.int x0), .val (.int x1), .val (.int P20), .unset, .unset, .unset, .unset, .unset, .unset]) rfl kk_) ?_
  show own_G p e below s _ _ _ (T11.setTop (mkF m 124 #[.val (.int x0), .val (.int x1), .val (.int x2), .val (.int x3), .val (.int x4), .val (.int x5), .val (.int (Int32.ofNat ta)), .val (.int (Int32.ofNat ub)), .val (.int B8), .val (.int B9), .val (.int B10), .val (.int B11), .val (.int B12), .val (.int B13), .val (.int B14), .val (.int B15), .val (.int B16), .val (.int B17), .val (.int x0), .val (.int x1), .val (.int P20), .unset, .unset, .unset, .unset, .unset, .unset] []))
  refine own_go (fun _ kk_ => XS.iload X11.here hx rfl (hb hby at_124) rfl kk_) ?_
  show own_G p e below s _ _ _ (T11.setTop (mkF m 126 #[.val (.int x0), .val (.int x1), .val (.int x2), .val (.int x3), .val (.int x4), .val (.int x5), .val (.int (Int32.ofNat ta)), .val (.int (Int32.ofNat ub)), .val (.int B8), .val (.int B9), .val (.int B10), .val (.int B11), .val (.int B12), .val (.int B13), .val (.int B14), .val (.int B15), .val (.int B16), .val (.int B17), .val (.int x0), .val (.int x1), .val (.int P20), .unset, .unset, .unset, .unset, .unset, .unset] [(.int x5)]))
  refine own_go (fun _ kk_ => XS.iconst X11.here hx rfl (hb hby at_126) kk_) ?_
  show own_G p e below s _ _ _ (T11.setTop (mkF m 127 #[.val (.int x0), .val (.int x1), .val (.int x2), .val (.int x3), .val (.int x4), .val (.int x5), .val (.int (Int32.ofNat ta)), .val (.int (Int32.ofNat ub)), .val (.int B8), .val (.int B9), .val (.int B10), .val (.int B11), .val (.int B12), .val (.int B13), .val (.int B14), .val (.int B15), .val (.int B16), .val (.int B17), .val (.int x0), .val (.int x1), .val (.int P20), .unset, .unset, .unset, .unset, .unset, .unset] [(.int (2 : Int32)), (.int x5)]))
  refine own_go (fun _ kk_ => XS.iushr X11.here hx rfl (hb hby at_127) rfl kk_) ?_
  show own_G p e below s _ _ _ (T11.setTop (mkF m 128 #[.val (.int x0), .val (.int x1), .val (.int x2), .val (.int x3), .val (.int x4), .val (.int x5), .val (.int (Int32.ofNat ta)), .val (.int (Int32.ofNat ub)), .val (.int B8), .val (.int B9), .val (.int B10), .val (.int B11), .val (.int B12), .val (.int B13), .val (.int B14), .val (.int B15), .val (.int B16), .val (.int B17), .val (.int x0), .val (.int x1), .val (.int P20), .unset, .unset, .unset, .unset, .unset, .unset] [(.int ((x5.toUInt32 >>> ((2 : Int32) &&& 31).toUInt32).toInt32))]))
  refine own_go (fun _ kk_ => XS.iconst X11.here hx rfl (hb hby at_128) kk_) ?_
  show own_G p e below s _ _ _ (T11.setTop (mkF m 129 #[.val (.int x0), .val (.int x1), .val (.int x2), .val (.int x3), .val (.int x4), .val (.int x5), .val (.int (Int32.ofNat ta)), .val (.int (Int32.ofNat ub)), .val (.int B8), .val (.int B9), .val (.int B10), .val (.int B11), .val (.int B12), .val (.int B13), .val (.int B14), .val (.int B15), .val (.int B16), .val (.int B17), .val (.int x0), .val (.int x1), .val (.int P20), .unset, .unset, .unset, .unset, .unset, .unset] [(.int (3 : Int32)), (.int ((x5.toUInt32 >>> ((2 : Int32) &&& 31).toUInt32).toInt32))]))
  refine own_go (fun _ kk_ => XS.iand X11.here hx rfl (hb hby at_129) rfl kk_) ?_
  show own_G p e below s _ _ _ (T11.setTop (mkF m 130 #[.val (.int x0), .val (.int x1), .val (.int x2), .val (.int x3), .val (.int x4), .val (.int x5), .val (.int (Int32.ofNat ta)), .val (.int (Int32.ofNat ub)), .val (.int B8), .val (.int B9), .val (.int B10), .val (.int B11), .val (.int B12), .val (.int B13), .val (.int B14), .val (.int B15), .val (.int B16), .val (.int B17), .val (.int x0), .val (.int x1), .val (.int P20), .unset, .unset, .unset, .unset, .unset, .unset] [(.int (((x5.toUInt32 >>> ((2 : Int32) &&& 31).toUInt32).toInt32) &&& (3 : Int32)))]))
  refine own_go (fun _ kk_ => XS.iloadN X11.here hx rfl (hb hby at_130) rfl kk_) ?_
  show own_G p e below s _ _ _ (T11.setTop (mkF m 131 #[.val (.int x0), .val (.int x1), .val (.int x2), .val (.int x3), .val (.int x4), .val (.int x5), .val (.int (Int32.ofNat ta)), .val (.int (Int32.ofNat ub)), .val (.int B8), .val (.int B9), .val (.int B10), .val (.int B11), .val (.int B12), .val (.int B13), .val (.int B14), .val (.int B15), .val (.int B16), .val (.int B17), .val (.int x0), .val (.int x1), .val (.int P20), .unset, .unset, .unset, .unset, .unset, .unset] [(.int x3), (.int (((x5.toUInt32 >>> ((2 : Int32) &&& 31).toUInt32).toInt32) &&& (3 : Int32)))]))
  refine own_go (fun _ kk_ => XS.iloadN X11.here hx rfl (hb hby at_131) rfl kk_) ?_
  show own_G p e below s _ _ _ (T11.setTop (mkF m 132 #[.val (.int x0), .val (.int x1), .val (.int x2), .val (.int x3), .val (.int x4), .val (.int x5), .val (.int (Int32.ofNat ta)), .val (.int (Int32.ofNat ub)), .val (.int B8), .val (.int B9), .val (.int B10), .val (.int B11), .val (.int B12), .val (.int B13), .val (.int B14), .val (.int B15), .val (.int B16), .val (.int B17), .val (.int x0), .val (.int x1), .val (.int P20), .unset, .unset, .unset, .unset, .unset, .unset] [(.int x0), (.int x3), (.int (((x5.toUInt32 >>> ((2 : Int32) &&& 31).toUInt32).toInt32) &&& (3 : Int32)))]))
  refine own_go (fun _ kk_ => XS.iloadN X11.here hx rfl (hb hby at_132) rfl kk_) ?_
  show own_G p e below s _ _ _ (T11.setTop (mkF m 133 #[.val (.int x0), .val (.int x1), .val (.int x2), .val (.int x3), .val (.int x4), .val (.int x5), .val (.int (Int32.ofNat ta)), .val (.int (Int32.ofNat ub)), .val (.int B8), .val (.int B9), .val (.int B10), .val (.int B11), .val (.int B12), .val (.int B13), .val (.int B14), .val (.int B15), .val (.int B16), .val (.int B17), .val (.int x0), .val (.int x1), .val (.int P20), .unset, .unset, .unset, .unset, .unset, .unset] [(.int x1), (.int x0), (.int x3), (.int (((x5.toUInt32 >>> ((2 : Int32) &&& 31).toUInt32).toInt32) &&& (3 : Int32)))]))
  obtain ⟨_, _, ⟨T12, L12, k12, n12⟩, -, X12, ⟨Lc12, hQ12, l12, y12, z12⟩, st12⟩ := Jvm.LawKit.callS X11 hx (y := (⟨"com/example/relyguard/relyguard/FootprintDependsOnPinLaw", "pick", "(IIII)I"⟩ : MethodName)) hown (mvT hZ (hw _ (List.mem_of_getElem? (i := 4) rfl))) (mvT hZ (hw _ (List.mem_of_getElem? (i := 5) rfl))) (mvT hZ (hw _ (List.mem_of_getElem? (i := 2) rfl))) (mvT hZ (hw _ (List.mem_of_getElem? (i := 6) rfl))) (by decide) (backOf (W := 0) (rmPick l Z a0 hw [] (((x5.toUInt32 >>> ((2 : Int32) &&& 31).toUInt32).toInt32) &&& (3 : Int32)) x3 x0 x1 h0 n0 Z0) hZ (hw _ (List.mem_of_getElem? (i := 6) rfl)) (hw _ (List.mem_of_getElem? (i := 2) rfl)) (by decide) (by decide)) (g := (mkF m 133 #[.val (.int x0), .val (.int x1), .val (.int x2), .val (.int x3), .val (.int x4), .val (.int x5), .val (.int (Int32.ofNat ta)), .val (.int (Int32.ofNat ub)), .val (.int B8), .val (.int B9), .val (.int B10), .val (.int B11), .val (.int B12), .val (.int B13), .val (.int B14), .val (.int B15), .val (.int B16), .val (.int B17), .val (.int x0), .val (.int x1), .val (.int P20), .unset, .unset, .unset, .unset, .unset, .unset] [(.int x1), (.int x0), (.int x3), (.int (((x5.toUInt32 >>> ((2 : Int32) &&& 31).toUInt32).toInt32) &&& (3 : Int32)))])) rfl (by rw [hml]; rfl) (argsL := [(.int (((x5.toUInt32 >>> ((2 : Int32) &&& 31).toUInt32).toInt32) &&& (3 : Int32))), (.int x3), (.int x0), (.int x1)]) (rest := []) (lenOf pd_4 rfl) rfl (by show 2 * 0 + _ ≤ _; exact Nat.le_of_eq rfl) (hb hby at_133) (fun _ _ => ⟨rfl, e11, (by decide : 0 + 0 ≤ _), (by decide : 0 + 0 ≤ _)⟩)
  dsimp only [Pt.U, Pt.locs, Pt.cells, Pt.slots] at X12 l12 y12 z12 st12 hQ12
  subst l12 y12 z12
  obtain ⟨P21, rfl, N12q, e12⟩ := hQ12
  have N12 := Fr.app N11 N12q
  refine own_go st12 ?_
  show own_G p e below s _ _ _ (T12.setTop (mkF m 136 #[.val (.int x0), .val (.int x1), .val (.int x2), .val (.int x3), .val (.int x4), .val (.int x5), .val (.int (Int32.ofNat ta)), .val (.int (Int32.ofNat ub)), .val (.int B8), .val (.int B9), .val (.int B10), .val (.int B11), .val (.int B12), .val (.int B13), .val (.int B14), .val (.int B15), .val (.int B16), .val (.int B17), .val (.int x0), .val (.int x1), .val (.int P20), .unset, .unset, .unset, .unset, .unset, .unset] [(.int P21)]))
  refine own_go (fun _ kk_ => XS.istore X12.here hx rfl (hb hby at_136) rfl (l' := #[.val (.int x0), .val (.int x1), .val (.int x2), .val (.int x3), .val (.int x4), .val (.int x5), .val (.int (Int32.ofNat ta)), .val (.int (Int32.ofNat ub)), .val (.int B8), .val (.int B9), .val (.int B10), .val (.int B11), .val (.int B12), .val (.int B13), .val (.int B14), .val (.int B15), .val (.int B16), .val (.int B17), .val (.int x0), .val (.int x1), .val (.int P20), .val (.int P21), .unset, .unset, .unset, .unset, .unset]) rfl kk_) ?_
  show own_G p e below s _ _ _ (T12.setTop (mkF m 138 #[.val (.int x0), .val (.int x1), .val (.int x2), .val (.int x3), .val (.int x4), .val (.int x5), .val (.int (Int32.ofNat ta)), .val (.int (Int32.ofNat ub)), .val (.int B8), .val (.int B9), .val (.int B10), .val (.int B11), .val (.int B12), .val (.int B13), .val (.int B14), .val (.int B15), .val (.int B16), .val (.int B17), .val (.int x0), .val (.int x1), .val (.int P20), .val (.int P21), .unset, .unset, .unset, .unset, .unset] []))
  refine own_go (fun _ kk_ => XS.iload X12.here hx rfl (hb hby at_138) rfl kk_) ?_
  show own_G p e below s _ _ _ (T12.setTop (mkF m 140 #[.val (.int x0), .val (.int x1), .val (.int x2), .val (.int x3), .val (.int x4), .val (.int x5), .val (.int (Int32.ofNat ta)), .val (.int (Int32.ofNat ub)), .val (.int B8), .val (.int B9), .val (.int B10), .val (.int B11), .val (.int B12), .val (.int B13), .val (.int B14), .val (.int B15), .val (.int B16), .val (.int B17), .val (.int x0), .val (.int x1), .val (.int P20), .val (.int P21), .unset, .unset, .unset, .unset, .unset] [(.int x5)]))
  refine own_go (fun _ kk_ => XS.iconst X12.here hx rfl (hb hby at_140) kk_) ?_
  show own_G p e below s _ _ _ (T12.setTop (mkF m 141 #[.val (.int x0), .val (.int x1), .val (.int x2), .val (.int x3), .val (.int x4), .val (.int x5), .val (.int (Int32.ofNat ta)), .val (.int (Int32.ofNat ub)), .val (.int B8), .val (.int B9), .val (.int B10), .val (.int B11), .val (.int B12), .val (.int B13), .val (.int B14), .val (.int B15), .val (.int B16), .val (.int B17), .val (.int x0), .val (.int x1), .val (.int P20), .val (.int P21), .unset, .unset, .unset, .unset, .unset] [(.int (4 : Int32)), (.int x5)]))
  refine own_go (fun _ kk_ => XS.iushr X12.here hx rfl (hb hby at_141) rfl kk_) ?_
  show own_G p e below s _ _ _ (T12.setTop (mkF m 142 #[.val (.int x0), .val (.int x1), .val (.int x2), .val (.int x3), .val (.int x4), .val (.int x5), .val (.int (Int32.ofNat ta)), .val (.int (Int32.ofNat ub)), .val (.int B8), .val (.int B9), .val (.int B10), .val (.int B11), .val (.int B12), .val (.int B13), .val (.int B14), .val (.int B15), .val (.int B16), .val (.int B17), .val (.int x0), .val (.int x1), .val (.int P20), .val (.int P21), .unset, .unset, .unset, .unset, .unset] [(.int ((x5.toUInt32 >>> ((4 : Int32) &&& 31).toUInt32).toInt32))]))
  refine own_go (fun _ kk_ => XS.bipush X12.here hx rfl (hb hby at_142) kk_) ?_
  show own_G p e below s _ _ _ (T12.setTop (mkF m 144 #[.val (.int x0), .val (.int x1), .val (.int x2), .val (.int x3), .val (.int x4), .val (.int x5), .val (.int (Int32.ofNat ta)), .val (.int (Int32.ofNat ub)), .val (.int B8), .val (.int B9), .val (.int B10), .val (.int B11), .val (.int B12), .val (.int B13), .val (.int B14), .val (.int B15), .val (.int B16), .val (.int B17), .val (.int x0), .val (.int x1), .val (.int P20), .val (.int P21), .unset, .unset, .unset, .unset, .unset] [(.int (15 : Int32)), (.int ((x5.toUInt32 >>> ((4 : Int32) &&& 31).toUInt32).toInt32))]))
  refine own_go (fun _ kk_ => XS.iand X12.here hx rfl (hb hby at_144) rfl kk_) ?_
  show own_G p e below s _ _ _ (T12.setTop (mkF m 145 #[.val (.int x0), .val (.int x1), .val (.int x2), .val (.int x3), .val (.int x4), .val (.int x5), .val (.int (Int32.ofNat ta)), .val (.int (Int32.ofNat ub)), .val (.int B8), .val (.int B9), .val (.int B10), .val (.int B11), .val (.int B12), .val (.int B13), .val (.int B14), .val (.int B15), .val (.int B16), .val (.int B17), .val (.int x0), .val (.int x1), .val (.int P20), .val (.int P21), .unset, .unset, .unset, .unset, .unset] [(.int (((x5.toUInt32 >>> ((4 : Int32) &&& 31).toUInt32).toInt32) &&& (15 : Int32)))]))
  rw [ekA']
  show own_G p e below s _ _ _ (T12.setTop (mkF m 145 #[.val (.int x0), .val (.int x1), .val (.int x2), .val (.int x3), .val (.int x4), .val (.int x5), .val (.int (Int32.ofNat ta)), .val (.int (Int32.ofNat ub)), .val (.int B8), .val (.int B9), .val (.int B10), .val (.int B11), .val (.int B12), .val (.int B13), .val (.int B14), .val (.int B15), .val (.int B16), .val (.int B17), .val (.int x0), .val (.int x1), .val (.int P20), .val (.int P21), .unset, .unset, .unset, .unset, .unset] [(.int (Int32.ofNat kA))]))
  refine own_go (fun _ kk_ => XS.istore X12.here hx rfl (hb hby at_145) rfl (l' := #[.val (.int x0), .val (.int x1), .val (.int x2), .val (.int x3), .val (.int x4), .val (.int x5), .val (.int (Int32.ofNat ta)), .val (.int (Int32.ofNat ub)), .val (.int B8), .val (.int B9), .val (.int B10), .val (.int B11), .val (.int B12), .val (.int B13), .val (.int B14), .val (.int B15), .val (.int B16), .val (.int B17), .val (.int x0), .val (.int x1), .val (.int P20), .val (.int P21), .val (.int (Int32.ofNat kA)), .unset, .unset, .unset, .unset]) rfl kk_) ?_
  show own_G p e below s _ _ _ (T12.setTop (mkF m 147 #[.val (.int x0), .val (.int x1), .val (.int x2), .val (.int x3), .val (.int x4), .val (.int x5), .val (.int (Int32.ofNat ta)), .val (.int (Int32.ofNat ub)), .val (.int B8), .val (.int B9), .val (.int B10), .val (.int B11), .val (.int B12), .val (.int B13), .val (.int B14), .val (.int B15), .val (.int B16), .val (.int B17), .val (.int x0), .val (.int x1), .val (.int P20), .val (.int P21), .val (.int (Int32.ofNat kA)), .unset, .unset, .unset, .unset] []))
  refine own_go (fun _ kk_ => XS.iload X12.here hx rfl (hb hby at_147) rfl kk_) ?_
  show own_G p e below s _ _ _ (T12.setTop (mkF m 149 #[.val (.int x0), .val (.int x1), .val (.int x2), .val (.int x3), .val (.int x4), .val (.int x5), .val (.int (Int32.ofNat ta)), .val (.int (Int32.ofNat ub)), .val (.int B8), .val (.int B9), .val (.int B10), .val (.int B11), .val (.int B12), .val (.int B13), .val (.int B14), .val (.int B15), .val (.int B16), .val (.int B17), .val (.int x0), .val (.int x1), .val (.int P20), .val (.int P21), .val (.int (Int32.ofNat kA)), .unset, .unset, .unset, .unset] [(.int x5)]))
  refine own_go (fun _ kk_ => XS.bipush X12.here hx rfl (hb hby at_149) kk_) ?_
  show own_G p e below s _ _ _ (T12.setTop (mkF m 151 #[.val (.int x0), .val (.int x1), .val (.int x2), .val (.int x3), .val (.int x4), .val (.int x5), .val (.int (Int32.ofNat ta)), .val (.int (Int32.ofNat ub)), .val (.int B8), .val (.int B9), .val (.int B10), .val (.int B11), .val (.int B12), .val (.int B13), .val (.int B14), .val (.int B15), .val (.int B16), .val (.int B17), .val (.int x0), .val (.int x1), .val (.int P20), .val (.int P21), .val (.int (Int32.ofNat kA)), .unset, .unset, .unset, .unset] [(.int (8 : Int32)), (.int x5)]))
  refine own_go (fun _ kk_ => XS.iushr X12.here hx rfl (hb hby at_151) rfl kk_) ?_
  show own_G p e below s _ _ _ (T12.setTop (mkF m 152 #[.val (.int x0), .val (.int x1), .val (.int x2), .val (.int x3), .val (.int x4), .val (.int x5), .val (.int (Int32.ofNat ta)), .val (.int (Int32.ofNat ub)), .val (.int B8), .val (.int B9), .val (.int B10), .val (.int B11), .val (.int B12), .val (.int B13), .val (.int B14), .val (.int B15), .val (.int B16), .val (.int B17), .val (.int x0), .val (.int x1), .val (.int P20), .val (.int P21), .val (.int (Int32.ofNat kA)), .unset, .unset, .unset, .unset] [(.int ((x5.toUInt32 >>> ((8 : Int32) &&& 31).toUInt32).toInt32))]))
  refine own_go (fun _ kk_ => XS.bipush X12.here hx rfl (hb hby at_152) kk_) ?_
  show own_G p e below s _ _ _ (T12.setTop (mkF m 154 #[.val (.int x0), .val (.int x1), .val (.int x2), .val (.int x3), .val (.int x4), .val (.int x5), .val (.int (Int32.ofNat ta)), .val (.int (Int32.ofNat ub)), .val (.int B8), .val (.int B9), .val (.int B10), .val (.int B11), .val (.int B12), .val (.int B13), .val (.int B14), .val (.int B15), .val (.int B16), .val (.int B17), .val (.int x0), .val (.int x1), .val (.int P20), .val (.int P21), .val (.int (Int32.ofNat kA)), .unset, .unset, .unset, .unset] [(.int (15 : Int32)), (.int ((x5.toUInt32 >>> ((8 : Int32) &&& 31).toUInt32).toInt32))]))
  refine own_go (fun _ kk_ => XS.iand X12.here hx rfl (hb hby at_154) rfl kk_) ?_
  show own_G p e below s _ _ _ (T12.setTop (mkF m 155 #[.val (.int x0), .val (.int x1), .val (.int x2), .val (.int x3), .val (.int x4), .val (.int x5), .val (.int (Int32.ofNat ta)), .val (.int (Int32.ofNat ub)), .val (.int B8), .val (.int B9), .val (.int B10), .val (.int B11), .val (.int B12), .val (.int B13), .val (.int B14), .val (.int B15), .val (.int B16), .val (.int B17), .val (.int x0), .val (.int x1), .val (.int P20), .val (.int P21), .val (.int (Int32.ofNat kA)), .unset, .unset, .unset, .unset] [(.int (((x5.toUInt32 >>> ((8 : Int32) &&& 31).toUInt32).toInt32) &&& (15 : Int32)))]))
  rw [ekB']
  show own_G p e below s _ _ _ (T12.setTop (mkF m 155 #[.val (.int x0), .val (.int x1), .val (.int x2), .val (.int x3), .val (.int x4), .val (.int x5), .val (.int (Int32.ofNat ta)), .val (.int (Int32.ofNat ub)), .val (.int B8), .val (.int B9), .val (.int B10), .val (.int B11), .val (.int B12), .val (.int B13), .val (.int B14), .val (.int B15), .val (.int B16), .val (.int B17), .val (.int x0), .val (.int x1), .val (.int P20), .val (.int P21), .val (.int (Int32.ofNat kA)), .unset, .unset, .unset, .unset] [(.int (Int32.ofNat kB))]))
  refine own_go (fun _ kk_ => XS.istore X12.here hx rfl (hb hby at_155) rfl (l' := #[.val (.int x0), .val (.int x1), .val (.int x2), .val (.int x3), .val (.int x4), .val (.int x5), .val (.int (Int32.ofNat ta)), .val (.int (Int32.ofNat ub)), .val (.int B8), .val (.int B9), .val (.int B10), .val (.int B11), .val (.int B12), .val (.int B13), .val (.int B14), .val (.int B15), .val (.int B16), .val (.int B17), .val (.int x0), .val (.int x1), .val (.int P20), .val (.int P21), .val (.int (Int32.ofNat kA)), .val (.int (Int32.ofNat kB)), .unset, .unset, .unset]) rfl kk_) ?_
  show own_G p e below s _ _ _ (T12.setTop (mkF m 157 #[.val (.int x0), .val (.int x1), .val (.int x2), .val (.int x3), .val (.int x4), .val (.int x5), .val (.int (Int32.ofNat ta)), .val (.int (Int32.ofNat ub)), .val (.int B8), .val (.int B9), .val (.int B10), .val (.int B11), .val (.int B12), .val (.int B13), .val (.int B14), .val (.int B15), .val (.int B16), .val (.int B17), .val (.int x0), .val (.int x1), .val (.int P20), .val (.int P21), .val (.int (Int32.ofNat kA)), .val (.int (Int32.ofNat kB)), .unset, .unset, .unset] []))
  obtain ⟨T13, h13, X13, e13, E13, A13, D13, -, st13⟩ := newO X12 hx hZ hown (hw _ (List.mem_of_getElem? (i := 7) rfl)) (hw _ (List.mem_of_getElem? (i := 8) rfl)) (hw _ (List.mem_of_getElem? (i := 9) rfl)) e12 (g := (mkF m 157 #[.val (.int x0), .val (.int x1), .val (.int x2), .val (.int x3), .val (.int x4), .val (.int x5), .val (.int (Int32.ofNat ta)), .val (.int (Int32.ofNat ub)), .val (.int B8), .val (.int B9), .val (.int B10), .val (.int B11), .val (.int B12), .val (.int B13), .val (.int B14), .val (.int B15), .val (.int B16), .val (.int B17), .val (.int x0), .val (.int x1), .val (.int P20), .val (.int P21), .val (.int (Int32.ofNat kA)), .val (.int (Int32.ofNat kB)), .unset, .unset, .unset] [])) rfl (hb hby at_157) (by decide) (by decide)
  obtain ⟨b13, g13⟩ : ∃ z, z = h0.size := ⟨_, rfl⟩
  rw [← g13] at A13 D13 st13
  refine own_go st13 ?_
  have O13_ := O_0.ext E13
  have g_b13 : n0 ≤ b13 := Nat.le_trans Z0 (Nat.le_of_eq g13.symm)
  have Z13 : n0 ≤ h13.size := Nat.le_trans Z0 E13.1
  have F13_b13_movers : Fld Z h13 b13 "com/example/relyguard/relyguard/Footprint" "movers" "Ljava/util/BitSet;" .null := D13 (Or.inr (hw _ (List.mem_of_getElem? (i := 39) rfl))) (ty := (.object "java/util/BitSet")) (by decide)
  have F13_b13_cells : Fld Z h13 b13 "com/example/relyguard/relyguard/Footprint" "cells" "[I" .null := D13 (Or.inl (hw _ (List.mem_of_getElem? (i := 42) rfl))) (ty := (.array .int)) (by decide)
  have F13_b13_writes : Fld Z h13 b13 "com/example/relyguard/relyguard/Footprint" "writes" "[Z" .null := D13 (Or.inl (hw _ (List.mem_of_getElem? (i := 45) rfl))) (ty := (.array .boolean)) (by decide)
  have F13_b13_thread : Fld Z h13 b13 "com/example/relyguard/relyguard/Footprint" "thread" "I" (.int (0 : Int32)) := D13 (Or.inr (hw _ (List.mem_of_getElem? (i := 47) rfl))) (ty := .int) (by decide)
  have F13_b13_endsRun : Fld Z h13 b13 "com/example/relyguard/relyguard/Footprint" "endsRun" "Z" (.int (0 : Int32)) := D13 (Or.inl (hw _ (List.mem_of_getElem? (i := 75) rfl))) (ty := .boolean) (by decide)
  have F13_b13_begins : Fld Z h13 b13 "com/example/relyguard/relyguard/Footprint" "begins" "Z" (.int (0 : Int32)) := D13 (Or.inl (hw _ (List.mem_of_getElem? (i := 77) rfl))) (ty := .boolean) (by decide)
  have F13_b13_returns : Fld Z h13 b13 "com/example/relyguard/relyguard/Footprint" "returns" "Z" (.int (0 : Int32)) := D13 (Or.inl (hw _ (List.mem_of_getElem? (i := 79) rfl))) (ty := .boolean) (by decide)
  have F13_b13_touched : Fld Z h13 b13 "com/example/relyguard/relyguard/Footprint" "touched" "I" (.int (0 : Int32)) := D13 (Or.inl (hw _ (List.mem_of_getElem? (i := 81) rfl))) (ty := .int) (by decide)
  show own_G p e below s _ _ _ (T13.setTop (mkF m 160 #[.val (.int x0), .val (.int x1), .val (.int x2), .val (.int x3), .val (.int x4), .val (.int x5), .val (.int (Int32.ofNat ta)), .val (.int (Int32.ofNat ub)), .val (.int B8), .val (.int B9), .val (.int B10), .val (.int B11), .val (.int B12), .val (.int B13), .val (.int B14), .val (.int B15), .val (.int B16), .val (.int B17), .val (.int x0), .val (.int x1), .val (.int P20), .val (.int P21), .val (.int (Int32.ofNat kA)), .val (.int (Int32.ofNat kB)), .unset, .unset, .unset] [(.ref b13)]))
  refine own_go (fun _ kk_ => XS.dup X13.here hx rfl (hb hby at_160) rfl rfl kk_) ?_
  show own_G p e below s _ _ _ (T13.setTop (mkF m 161 #[.val (.int x0), .val (.int x1), .val (.int x2), .val (.int x3), .val (.int x4), .val (.int x5), .val (.int (Int32.ofNat ta)), .val (.int (Int32.ofNat ub)), .val (.int B8), .val (.int B9), .val (.int B10), .val (.int B11), .val (.int B12), .val (.int B13), .val (.int B14), .val (.int B15), .val (.int B16), .val (.int B17), .val (.int x0), .val (.int x1), .val (.int P20), .val (.int P21), .val (.int (Int32.ofNat kA)), .val (.int (Int32.ofNat kB)), .unset, .unset, .unset] [(.ref b13), (.ref b13)]))
  refine own_go (fun _ kk_ => XS.iload X13.here hx rfl (hb hby at_161) rfl kk_) ?_
  show own_G p e below s _ _ _ (T13.setTop (mkF m 163 #[.val (.int x0), .val (.int x1), .val (.int x2), .val (.int x3), .val (.int x4), .val (.int x5), .val (.int (Int32.ofNat ta)), .val (.int (Int32.ofNat ub)), .val (.int B8), .val (.int B9), .val (.int B10), .val (.int B11), .val (.int B12), .val (.int B13), .val (.int B14), .val (.int B15), .val (.int B16), .val (.int B17), .val (.int x0), .val (.int x1), .val (.int P20), .val (.int P21), .val (.int (Int32.ofNat kA)), .val (.int (Int32.ofNat kB)), .unset, .unset, .unset] [(.int (Int32.ofNat kA)), (.ref b13), (.ref b13)]))
  obtain ⟨_, _, ⟨T14, L14, k14, n14⟩, -, X14, ⟨Lc14, hQ14, l14, y14, z14⟩, st14⟩ := X13.specialBack hx (y := (⟨"com/example/relyguard/relyguard/Footprint", "<init>", "(I)V"⟩ : MethodName)) rfl hown (mvT hZ (hw _ (List.mem_of_getElem? (i := 10) rfl))) (mvT hZ (hw _ (List.mem_of_getElem? (i := 11) rfl))) (mvT hZ (hw _ (List.mem_of_getElem? (i := 12) rfl))) (by decide) (backOf (W := 1) (rmFI l Z a0 hw [] b13 kA h13 n0 Z13 hkA O13_ S_a A13 g_b13 F13_b13_movers F13_b13_cells F13_b13_writes F13_b13_thread F13_b13_touched F13_b13_begins F13_b13_returns F13_b13_endsRun) hZ (hw _ (List.mem_of_getElem? (i := 12) rfl)) (hw _ (List.mem_of_getElem? (i := 9) rfl)) (by decide) (by decide)) (g := (mkF m 163 #[.val (.int x0), .val (.int x1), .val (.int x2), .val (.int x3), .val (.int x4), .val (.int x5), .val (.int (Int32.ofNat ta)), .val (.int (Int32.ofNat ub)), .val (.int B8), .val (.int B9), .val (.int B10), .val (.int B11), .val (.int B12), .val (.int B13), .val (.int B14), .val (.int B15), .val (.int B16), .val (.int B17), .val (.int x0), .val (.int x1), .val (.int P20), .val (.int P21), .val (.int (Int32.ofNat kA)), .val (.int (Int32.ofNat kB)), .unset, .unset, .unset] [(.int (Int32.ofNat kA)), (.ref b13), (.ref b13)])) rfl (by rw [hml]; rfl) (Steps.refl _) (a := b13) (argsL := [(.int (Int32.ofNat kA))]) (rest := [(.ref b13)]) (lenOf pd_1 rfl) rfl (by show 2 * 0 + _ ≤ _; exact Nat.le_of_eq rfl) (hb hby at_163) (fun _ _ => ⟨rfl, e13, (by decide : 1 + 4 ≤ _), (by decide : 9 + 8 ≤ _)⟩)
  dsimp only [Pt.U, Pt.locs, Pt.cells, Pt.slots] at X14 l14 y14 z14 st14 hQ14
  subst l14 y14 z14
  generalize e14 : T14.heap = h14 at hQ14
  obtain ⟨rfl, N14q, Z14, K14, ca_x, wa_x, kc_x, kw_x, koc_x, kow_x, FP14⟩ := hQ14
  have N14 := Fr.app N12 N14q
  refine own_go (fun _ kk_ => st14.trans kk_) ?_
  have O14 := O13_.keep K14 (allS g_b13 all0)
  have gx_x : n0 ≤ b13 := g_b13
  have gc_x : n0 ≤ ca_x := Nat.le_trans Z13 koc_x
  have gw_x : n0 ≤ wa_x := Nat.le_trans Z13 kow_x
  show own_G p e below s _ _ _ (T14.setTop (mkF m 166 #[.val (.int x0), .val (.int x1), .val (.int x2), .val (.int x3), .val (.int x4), .val (.int x5), .val (.int (Int32.ofNat ta)), .val (.int (Int32.ofNat ub)), .val (.int B8), .val (.int B9), .val (.int B10), .val (.int B11), .val (.int B12), .val (.int B13), .val (.int B14), .val (.int B15), .val (.int B16), .val (.int B17), .val (.int x0), .val (.int x1), .val (.int P20), .val (.int P21), .val (.int (Int32.ofNat kA)), .val (.int (Int32.ofNat kB)), .unset, .unset, .unset] [(.ref b13)]))
  refine own_go (fun _ kk_ => XS.astore X14.here hx rfl (hb hby at_166) rfl rfl (l' := #[.val (.int x0), .val (.int x1), .val (.int x2), .val (.int x3), .val (.int x4), .val (.int x5), .val (.int (Int32.ofNat ta)), .val (.int (Int32.ofNat ub)), .val (.int B8), .val (.int B9), .val (.int B10), .val (.int B11), .val (.int B12), .val (.int B13), .val (.int B14), .val (.int B15), .val (.int B16), .val (.int B17), .val (.int x0), .val (.int x1), .val (.int P20), .val (.int P21), .val (.int (Int32.ofNat kA)), .val (.int (Int32.ofNat kB)), .val (.ref b13), .unset, .unset]) rfl kk_) ?_
  show own_G p e below s _ _ _ (T14.setTop (mkF m 168 #[.val (.int x0), .val (.int x1), .val (.int x2), .val (.int x3), .val (.int x4), .val (.int x5), .val (.int (Int32.ofNat ta)), .val (.int (Int32.ofNat ub)), .val (.int B8), .val (.int B9), .val (.int B10), .val (.int B11), .val (.int B12), .val (.int B13), .val (.int B14), .val (.int B15), .val (.int B16), .val (.int B17), .val (.int x0), .val (.int x1), .val (.int P20), .val (.int P21), .val (.int (Int32.ofNat kA)), .val (.int (Int32.ofNat kB)), .val (.ref b13), .unset, .unset] []))
  have ltx0 : b13 < h14.size := FP14.1.1.lt
  have ltc0 : ca_x < h14.size := FP14.2.1.1.lt
  have ltw0 : wa_x < h14.size := FP14.2.1.2.lt
  show own_G p e below s _ _ _ (T14.setTop (mkF m 168 #[.val (.int x0), .val (.int x1), .val (.int x2), .val (.int x3), .val (.int x4), .val (.int x5), .val (.int (Int32.ofNat ta)), .val (.int (Int32.ofNat ub)), .val (.int B8), .val (.int B9), .val (.int B10), .val (.int B11), .val (.int B12), .val (.int B13), .val (.int B14), .val (.int B15), .val (.int B16), .val (.int B17), .val (.int x0), .val (.int x1), .val (.int P20), .val (.int P21), .val (.int (Int32.ofNat kA)), .val (.int (Int32.ofNat kB)), .val (.ref b13), .unset, .unset] []))
  obtain ⟨T15, h15, X15, e15, E15, A15, D15, -, st15⟩ := newO X14 hx hZ hown (hw _ (List.mem_of_getElem? (i := 7) rfl)) (hw _ (List.mem_of_getElem? (i := 8) rfl)) (hw _ (List.mem_of_getElem? (i := 9) rfl)) e14 (g := (mkF m 168 #[.val (.int x0), .val (.int x1), .val (.int x2), .val (.int x3), .val (.int x4), .val (.int x5), .val (.int (Int32.ofNat ta)), .val (.int (Int32.ofNat ub)), .val (.int B8), .val (.int B9), .val (.int B10), .val (.int B11), .val (.int B12), .val (.int B13), .val (.int B14), .val (.int B15), .val (.int B16), .val (.int B17), .val (.int x0), .val (.int x1), .val (.int P20), .val (.int P21), .val (.int (Int32.ofNat kA)), .val (.int (Int32.ofNat kB)), .val (.ref b13), .unset, .unset] [])) rfl (hb hby at_168) (by decide) (by decide)
  obtain ⟨b15, g15⟩ : ∃ z, z = h14.size := ⟨_, rfl⟩
  rw [← g15] at A15 D15 st15
  refine own_go st15 ?_
  have O15_ := O14.ext E15
  have g_b15 : n0 ≤ b15 := Nat.le_trans Z14 (Nat.le_of_eq g15.symm)
  have Z15 : n0 ≤ h15.size := Nat.le_trans Z14 E15.1
  have F15_b15_movers : Fld Z h15 b15 "com/example/relyguard/relyguard/Footprint" "movers" "Ljava/util/BitSet;" .null := D15 (Or.inr (hw _ (List.mem_of_getElem? (i := 39) rfl))) (ty := (.object "java/util/BitSet")) (by decide)
  have F15_b15_cells : Fld Z h15 b15 "com/example/relyguard/relyguard/Footprint" "cells" "[I" .null := D15 (Or.inl (hw _ (List.mem_of_getElem? (i := 42) rfl))) (ty := (.array .int)) (by decide)
  have F15_b15_writes : Fld Z h15 b15 "com/example/relyguard/relyguard/Footprint" "writes" "[Z" .null := D15 (Or.inl (hw _ (List.mem_of_getElem? (i := 45) rfl))) (ty := (.array .boolean)) (by decide)
  have F15_b15_thread : Fld Z h15 b15 "com/example/relyguard/relyguard/Footprint" "thread" "I" (.int (0 : Int32)) := D15 (Or.inr (hw _ (List.mem_of_getElem? (i := 47) rfl))) (ty := .int) (by decide)
  have F15_b15_endsRun : Fld Z h15 b15 "com/example/relyguard/relyguard/Footprint" "endsRun" "Z" (.int (0 : Int32)) := D15 (Or.inl (hw _ (List.mem_of_getElem? (i := 75) rfl))) (ty := .boolean) (by decide)
  have F15_b15_begins : Fld Z h15 b15 "com/example/relyguard/relyguard/Footprint" "begins" "Z" (.int (0 : Int32)) := D15 (Or.inl (hw _ (List.mem_of_getElem? (i := 77) rfl))) (ty := .boolean) (by decide)
  have F15_b15_returns : Fld Z h15 b15 "com/example/relyguard/relyguard/Footprint" "returns" "Z" (.int (0 : Int32)) := D15 (Or.inl (hw _ (List.mem_of_getElem? (i := 79) rfl))) (ty := .boolean) (by decide)
  have F15_b15_touched : Fld Z h15 b15 "com/example/relyguard/relyguard/Footprint" "touched" "I" (.int (0 : Int32)) := D15 (Or.inl (hw _ (List.mem_of_getElem? (i := 81) rfl))) (ty := .int) (by decide)
  have FPx15 := own_FPext FP14 E15
  have nxy0 : b13 ≠ b15 := Nat.ne_of_lt (Nat.lt_of_lt_of_le ltx0 (Nat.le_of_eq g15.symm))
  have nxy3 : ca_x ≠ b15 := Nat.ne_of_lt (Nat.lt_of_lt_of_le ltc0 (Nat.le_of_eq g15.symm))
  have nxy6 : wa_x ≠ b15 := Nat.ne_of_lt (Nat.lt_of_lt_of_le ltw0 (Nat.le_of_eq g15.symm))
  have ltx : b13 < h15.size := FPx15.1.1.lt
  have ltc : ca_x < h15.size := FPx15.2.1.1.lt
  have ltw : wa_x < h15.size := FPx15.2.1.2.lt
  show own_G p e below s _ _ _ (T15.setTop (mkF m 171 #[.val (.int x0), .val (.int x1), .val (.int x2), .val (.int x3), .val (.int x4), .val (.int x5), .val (.int (Int32.ofNat ta)), .val (.int (Int32.ofNat ub)), .val (.int B8), .val (.int B9), .val (.int B10), .val (.int B11), .val (.int B12), .val (.int B13), .val (.int B14), .val (.int B15), .val (.int B16), .val (.int B17), .val (.int x0), .val (.int x1), .val (.int P20), .val (.int P21), .val (.int (Int32.ofNat kA)), .val (.int (Int32.ofNat kB)), .val (.ref b13), .unset, .unset] [(.ref b15)]))
  refine own_go (fun _ kk_ => XS.dup X15.here hx rfl (hb hby at_171) rfl rfl kk_) ?_
  show own_G p e below s _ _ _ (T15.setTop (mkF m 172 #[.val (.int x0), .val (.int x1), .val (.int x2), .val (.int x3), .val (.int x4), .val (.int x5), .val (.int (Int32.ofNat ta)), .val (.int (Int32.ofNat ub)), .val (.int B8), .val (.int B9), .val (.int B10), .val (.int B11), .val (.int B12), .val (.int B13), .val (.int B14), .val (.int B15), .val (.int B16), .val (.int B17), .val (.int x0), .val (.int x1), .val (.int P20), .val (.int P21), .val (.int (Int32.ofNat kA)), .val (.int (Int32.ofNat kB)), .val (.ref b13), .unset, .unset] [(.ref b15), (.ref b15)]))
  refine own_go (fun _ kk_ => XS.iload X15.here hx rfl (hb hby at_172) rfl kk_) ?_
  show own_G p e below s _ _ _ (T15.setTop (mkF m 174 #[.val (.int x0), .val (.int x1), .val (.int x2), .val (.int x3), .val (.int x4), .val (.int x5), .val (.int (Int32.ofNat ta)), .val (.int (Int32.ofNat ub)), .val (.int B8), .val (.int B9), .val (.int B10), .val (.int B11), .val (.int B12), .val (.int B13), .val (.int B14), .val (.int B15), .val (.int B16), .val (.int B17), .val (.int x0), .val (.int x1), .val (.int P20), .val (.int P21), .val (.int (Int32.ofNat kA)), .val (.int (Int32.ofNat kB)), .val (.ref b13), .unset, .unset] [(.int (Int32.ofNat kB)), (.ref b15), (.ref b15)]))
  obtain ⟨_, _, ⟨T16, L16, k16, n16⟩, -, X16, ⟨Lc16, hQ16, l16, y16, z16⟩, st16⟩ := X15.specialBack hx (y := (⟨"com/example/relyguard/relyguard/Footprint", "<init>", "(I)V"⟩ : MethodName)) rfl hown (mvT hZ (hw _ (List.mem_of_getElem? (i := 10) rfl))) (mvT hZ (hw _ (List.mem_of_getElem? (i := 11) rfl))) (mvT hZ (hw _ (List.mem_of_getElem? (i := 12) rfl))) (by decide) (backOf (W := 1) (rmFI l Z a0 hw [] b15 kB h15 n0 Z15 hkB O15_ S_a A15 g_b15 F15_b15_movers F15_b15_cells F15_b15_writes F15_b15_thread F15_b15_touched F15_b15_begins F15_b15_returns F15_b15_endsRun) hZ (hw _ (List.mem_of_getElem? (i := 12) rfl)) (hw _ (List.mem_of_getElem? (i := 9) rfl)) (by decide) (by decide)) (g := (mkF m 174 #[.val (.int x0), .val (.int x1), .val (.int x2), .val (.int x3), .val (.int x4), .val (.int x5), .val (.int (Int32.ofNat ta)), .val (.int (Int32.ofNat ub)), .val (.int B8), .val (.int B9), .val (.int B10), .val (.int B11), .val (.int B12), .val (.int B13), .val (.int B14), .val (.int B15), .val (.int B16), .val (.int B17), .val (.int x0), .val (.int x1), .val (.int P20), .val (.int P21), .val (.int (Int32.ofNat kA)), .val (.int (Int32.ofNat kB)), .val (.ref b13), .unset, .unset] [(.int (Int32.ofNat kB)), (.ref b15), (.ref b15)])) rfl (by rw [hml]; rfl) (Steps.refl _) (a := b15) (argsL := [(.int (Int32.ofNat kB))]) (rest := [(.ref b15)]) (lenOf pd_1 rfl) rfl (by show 2 * 0 + _ ≤ _; exact Nat.le_of_eq rfl) (hb hby at_174) (fun _ _ => ⟨rfl, e15, (by decide : 6 + 4 ≤ _), (by decide : 26 + 8 ≤ _)⟩)
  dsimp only [Pt.U, Pt.locs, Pt.cells, Pt.slots] at X16 l16 y16 z16 st16 hQ16
  subst l16 y16 z16
  generalize e16 : T16.heap = h16 at hQ16
  obtain ⟨rfl, N16q, Z16, K16, ca_y, wa_y, kc_y, kw_y, koc_y, kow_y, FP16⟩ := hQ16
  have N16 := Fr.app N14 N16q
  refine own_go (fun _ kk_ => st16.trans kk_) ?_
  have O16 := O15_.keep K16 (allS g_b15 all0)
  have gx_y : n0 ≤ b15 := g_b15
  have gc_y : n0 ≤ ca_y := Nat.le_trans Z15 koc_y
  have gw_y : n0 ≤ wa_y := Nat.le_trans Z15 kow_y
  have FPx16 := own_FPkeep FPx15 K16 (ninS nxy0 nin0) (ninS nxy3 nin0) (ninS nxy6 nin0)
  have nxy1 : b13 ≠ ca_y := Nat.ne_of_lt (Nat.lt_of_lt_of_le ltx koc_y)
  have nxy2 : b13 ≠ wa_y := Nat.ne_of_lt (Nat.lt_of_lt_of_le ltx kow_y)
  have nxy4 : ca_x ≠ ca_y := Nat.ne_of_lt (Nat.lt_of_lt_of_le ltc koc_y)
  have nxy5 : ca_x ≠ wa_y := Nat.ne_of_lt (Nat.lt_of_lt_of_le ltc kow_y)
  have nxy7 : wa_x ≠ ca_y := Nat.ne_of_lt (Nat.lt_of_lt_of_le ltw koc_y)
  have nxy8 : wa_x ≠ wa_y := Nat.ne_of_lt (Nat.lt_of_lt_of_le ltw kow_y)
  show own_G p e below s _ _ _ (T16.setTop (mkF m 177 #[.val (.int x0), .val (.int x1), .val (.int x2), .val (.int x3), .val (.int x4), .val (.int x5), .val (.int (Int32.ofNat ta)), .val (.int (Int32.ofNat ub)), .val (.int B8), .val (.int B9), .val (.int B10), .val (.int B11), .val (.int B12), .val (.int B13), .val (.int B14), .val (.int B15), .val (.int B16), .val (.int B17), .val (.int x0), .val (.int x1), .val (.int P20), .val (.int P21), .val (.int (Int32.ofNat kA)), .val (.int (Int32.ofNat kB)), .val (.ref b13), .unset, .unset] [(.ref b15)]))
  refine own_go (fun _ kk_ => XS.astore X16.here hx rfl (hb hby at_177) rfl rfl (l' := #[.val (.int x0), .val (.int x1), .val (.int x2), .val (.int x3), .val (.int x4), .val (.int x5), .val (.int (Int32.ofNat ta)), .val (.int (Int32.ofNat ub)), .val (.int B8), .val (.int B9), .val (.int B10), .val (.int B11), .val (.int B12), .val (.int B13), .val (.int B14), .val (.int B15), .val (.int B16), .val (.int B17), .val (.int x0), .val (.int x1), .val (.int P20), .val (.int P21), .val (.int (Int32.ofNat kA)), .val (.int (Int32.ofNat kB)), .val (.ref b13), .val (.ref b15), .unset]) rfl kk_) ?_
  show own_G p e below s _ _ _ (T16.setTop (mkF m 179 #[.val (.int x0), .val (.int x1), .val (.int x2), .val (.int x3), .val (.int x4), .val (.int x5), .val (.int (Int32.ofNat ta)), .val (.int (Int32.ofNat ub)), .val (.int B8), .val (.int B9), .val (.int B10), .val (.int B11), .val (.int B12), .val (.int B13), .val (.int B14), .val (.int B15), .val (.int B16), .val (.int B17), .val (.int x0), .val (.int x1), .val (.int P20), .val (.int P21), .val (.int (Int32.ofNat kA)), .val (.int (Int32.ofNat kB)), .val (.ref b13), .val (.ref b15), .unset] []))
  suffices Ja : ∀ (Ta : State) (ha : Heap) (loa : List Loc) (c0 c1 w0 w1 : Int32), Stand p l e room_1 s m #[(.int x0), (.int x1), (.int x2), (.int x3), (.int x4), (.int x5)] below meth c Ta loa 10 34 → Fr n0 loa → Ta.heap = ha → n0 ≤ ha.size → (0 < ta → c0 = x0 ∧ w0 = B8) → (1 < ta → c1 = x1 ∧ w1 = B9) → own_FP Z ha b13 ca_x wa_x kc_x kw_x (Int32.ofNat ta) c0 c1 w0 w1 0 0 0 → own_FP Z ha b15 ca_y wa_y kc_y kw_y 0 0 0 0 0 0 0 0 → own_G p e below s (Q_rm0 Z x0 x1 x2 x3 x4 x5 h0 n0) 32 192 (Ta.setTop (mkF m 209 #[.val (.int x0), .val (.int x1), .val (.int x2), .val (.int x3), .val (.int x4), .val (.int x5), .val (.int (Int32.ofNat ta)), .val (.int (Int32.ofNat ub)), .val (.int B8), .val (.int B9), .val (.int B10), .val (.int B11), .val (.int B12), .val (.int B13), .val (.int B14), .val (.int B15), .val (.int B16), .val (.int B17), .val (.int x0), .val (.int x1), .val (.int P20), .val (.int P21), .val (.int (Int32.ofNat kA)), .val (.int (Int32.ofNat kB)), .val (.ref b13), .val (.ref b15), .unset] [])) by
    rcases (by omega : ta = 0 ∨ ta = 1 ∨ ta = 2) with rfl | rfl | rfl
    · skip
      show own_G p e below s _ _ _ (T16.setTop (mkF m 179 #[.val (.int x0), .val (.int x1), .val (.int x2), .val (.int x3), .val (.int x4), .val (.int x5), .val (.int (0 : Int32)), .val (.int (Int32.ofNat ub)), .val (.int B8), .val (.int B9), .val (.int B10), .val (.int B11), .val (.int B12), .val (.int B13), .val (.int B14), .val (.int B15), .val (.int B16), .val (.int B17), .val (.int x0), .val (.int x1), .val (.int P20), .val (.int P21), .val (.int (Int32.ofNat kA)), .val (.int (Int32.ofNat kB)), .val (.ref b13), .val (.ref b15), .unset] []))
      refine own_go (fun _ kk_ => XS.iload X16.here hx rfl (hb hby at_179) rfl kk_) ?_
      show own_G p e below s _ _ _ (T16.setTop (mkF m 181 #[.val (.int x0), .val (.int x1), .val (.int x2), .val (.int x3), .val (.int x4), .val (.int x5), .val (.int (0 : Int32)), .val (.int (Int32.ofNat ub)), .val (.int B8), .val (.int B9), .val (.int B10), .val (.int B11), .val (.int B12), .val (.int B13), .val (.int B14), .val (.int B15), .val (.int B16), .val (.int B17), .val (.int x0), .val (.int x1), .val (.int P20), .val (.int P21), .val (.int (Int32.ofNat kA)), .val (.int (Int32.ofNat kB)), .val (.ref b13), .val (.ref b15), .unset] [(.int (0 : Int32))]))
      refine own_go (fun _ kk_ => XS.iconst X16.here hx rfl (hb hby at_181) kk_) ?_
      show own_G p e below s _ _ _ (T16.setTop (mkF m 182 #[.val (.int x0), .val (.int x1), .val (.int x2), .val (.int x3), .val (.int x4), .val (.int x5), .val (.int (0 : Int32)), .val (.int (Int32.ofNat ub)), .val (.int B8), .val (.int B9), .val (.int B10), .val (.int B11), .val (.int B12), .val (.int B13), .val (.int B14), .val (.int B15), .val (.int B16), .val (.int B17), .val (.int x0), .val (.int x1), .val (.int P20), .val (.int P21), .val (.int (Int32.ofNat kA)), .val (.int (Int32.ofNat kB)), .val (.ref b13), .val (.ref b15), .unset] [(.int (1 : Int32)), (.int (0 : Int32))]))
      refine own_ic_ltY X16 hx (pc := 182) (pc' := 194) (hb hby at_182) (by decide) (by decide) (by decide) ?_
      show own_G p e below s _ _ _ (T16.setTop (mkF m 194 #[.val (.int x0), .val (.int x1), .val (.int x2), .val (.int x3), .val (.int x4), .val (.int x5), .val (.int (0 : Int32)), .val (.int (Int32.ofNat ub)), .val (.int B8), .val (.int B9), .val (.int B10), .val (.int B11), .val (.int B12), .val (.int B13), .val (.int B14), .val (.int B15), .val (.int B16), .val (.int B17), .val (.int x0), .val (.int x1), .val (.int P20), .val (.int P21), .val (.int (Int32.ofNat kA)), .val (.int (Int32.ofNat kB)), .val (.ref b13), .val (.ref b15), .unset] []))
      refine own_go (fun _ kk_ => XS.iload X16.here hx rfl (hb hby at_194) rfl kk_) ?_
      show own_G p e below s _ _ _ (T16.setTop (mkF m 196 #[.val (.int x0), .val (.int x1), .val (.int x2), .val (.int x3), .val (.int x4), .val (.int x5), .val (.int (0 : Int32)), .val (.int (Int32.ofNat ub)), .val (.int B8), .val (.int B9), .val (.int B10), .val (.int B11), .val (.int B12), .val (.int B13), .val (.int B14), .val (.int B15), .val (.int B16), .val (.int B17), .val (.int x0), .val (.int x1), .val (.int P20), .val (.int P21), .val (.int (Int32.ofNat kA)), .val (.int (Int32.ofNat kB)), .val (.ref b13), .val (.ref b15), .unset] [(.int (0 : Int32))]))
      refine own_go (fun _ kk_ => XS.iconst X16.here hx rfl (hb hby at_196) kk_) ?_
      show own_G p e below s _ _ _ (T16.setTop (mkF m 197 #[.val (.int x0), .val (.int x1), .val (.int x2), .val (.int x3), .val (.int x4), .val (.int x5), .val (.int (0 : Int32)), .val (.int (Int32.ofNat ub)), .val (.int B8), .val (.int B9), .val (.int B10), .val (.int B11), .val (.int B12), .val (.int B13), .val (.int B14), .val (.int B15), .val (.int B16), .val (.int B17), .val (.int x0), .val (.int x1), .val (.int P20), .val (.int P21), .val (.int (Int32.ofNat kA)), .val (.int (Int32.ofNat kB)), .val (.ref b13), .val (.ref b15), .unset] [(.int (2 : Int32)), (.int (0 : Int32))]))
      refine own_ic_ltY X16 hx (pc := 197) (pc' := 209) (hb hby at_197) (by decide) (by decide) (by decide) ?_
      exact Ja _ _ _ 0 0 0 0 (X16.more (by decide) (by decide)) N16 e16 Z16 (fun q => absurd q (by decide)) (fun q => absurd q (by decide)) FPx16 FP16
    · skip
      show own_G p e below s _ _ _ (T16.setTop (mkF m 179 #[.val (.int x0), .val (.int x1), .val (.int x2), .val (.int x3), .val (.int x4), .val (.int x5), .val (.int (1 : Int32)), .val (.int (Int32.ofNat ub)), .val (.int B8), .val (.int B9), .val (.int B10), .val (.int B11), .val (.int B12), .val (.int B13), .val (.int B14), .val (.int B15), .val (.int B16), .val (.int B17), .val (.int x0), .val (.int x1), .val (.int P20), .val (.int P21), .val (.int (Int32.ofNat kA)), .val (.int (Int32.ofNat kB)), .val (.ref b13), .val (.ref b15), .unset] []))
      refine own_go (fun _ kk_ => XS.iload X16.here hx rfl (hb hby at_179) rfl kk_) ?_
      show own_G p e below s _ _ _ (T16.setTop (mkF m 181 #[.val (.int x0), .val (.int x1), .val (.int x2), .val (.int x3), .val (.int x4), .val (.int x5), .val (.int (1 : Int32)), .val (.int (Int32.ofNat ub)), .val (.int B8), .val (.int B9), .val (.int B10), .val (.int B11), .val (.int B12), .val (.int B13), .val (.int B14), .val (.int B15), .val (.int B16), .val (.int B17), .val (.int x0), .val (.int x1), .val (.int P20), .val (.int P21), .val (.int (Int32.ofNat kA)), .val (.int (Int32.ofNat kB)), .val (.ref b13), .val (.ref b15), .unset] [(.int (1 : Int32))]))
      refine own_go (fun _ kk_ => XS.iconst X16.here hx rfl (hb hby at_181) kk_) ?_
      show own_G p e below s _ _ _ (T16.setTop (mkF m 182 #[.val (.int x0), .val (.int x1), .val (.int x2), .val (.int x3), .val (.int x4), .val (.int x5), .val (.int (1 : Int32)), .val (.int (Int32.ofNat ub)), .val (.int B8), .val (.int B9), .val (.int B10), .val (.int B11), .val (.int B12), .val (.int B13), .val (.int B14), .val (.int B15), .val (.int B16), .val (.int B17), .val (.int x0), .val (.int x1), .val (.int P20), .val (.int P21), .val (.int (Int32.ofNat kA)), .val (.int (Int32.ofNat kB)), .val (.ref b13), .val (.ref b15), .unset] [(.int (1 : Int32)), (.int (1 : Int32))]))
      refine own_ic_ltN X16 hx (pc := 182) (hb hby at_182) (by decide) ?_
      show own_G p e below s _ _ _ (T16.setTop (mkF m 185 #[.val (.int x0), .val (.int x1), .val (.int x2), .val (.int x3), .val (.int x4), .val (.int x5), .val (.int (1 : Int32)), .val (.int (Int32.ofNat ub)), .val (.int B8), .val (.int B9), .val (.int B10), .val (.int B11), .val (.int B12), .val (.int B13), .val (.int B14), .val (.int B15), .val (.int B16), .val (.int B17), .val (.int x0), .val (.int x1), .val (.int P20), .val (.int P21), .val (.int (Int32.ofNat kA)), .val (.int (Int32.ofNat kB)), .val (.ref b13), .val (.ref b15), .unset] []))
      refine own_go (fun _ kk_ => XS.aload X16.here hx rfl (hb hby at_185) rfl rfl kk_) ?_
      show own_G p e below s _ _ _ (T16.setTop (mkF m 187 #[.val (.int x0), .val (.int x1), .val (.int x2), .val (.int x3), .val (.int x4), .val (.int x5), .val (.int (1 : Int32)), .val (.int (Int32.ofNat ub)), .val (.int B8), .val (.int B9), .val (.int B10), .val (.int B11), .val (.int B12), .val (.int B13), .val (.int B14), .val (.int B15), .val (.int B16), .val (.int B17), .val (.int x0), .val (.int x1), .val (.int P20), .val (.int P21), .val (.int (Int32.ofNat kA)), .val (.int (Int32.ofNat kB)), .val (.ref b13), .val (.ref b15), .unset] [(.ref b13)]))
      refine own_go (fun _ kk_ => XS.iload X16.here hx rfl (hb hby at_187) rfl kk_) ?_
      show own_G p e below s _ _ _ (T16.setTop (mkF m 189 #[.val (.int x0), .val (.int x1), .val (.int x2), .val (.int x3), .val (.int x4), .val (.int x5), .val (.int (1 : Int32)), .val (.int (Int32.ofNat ub)), .val (.int B8), .val (.int B9), .val (.int B10), .val (.int B11), .val (.int B12), .val (.int B13), .val (.int B14), .val (.int B15), .val (.int B16), .val (.int B17), .val (.int x0), .val (.int x1), .val (.int P20), .val (.int P21), .val (.int (Int32.ofNat kA)), .val (.int (Int32.ofNat kB)), .val (.ref b13), .val (.ref b15), .unset] [(.int x0), (.ref b13)]))
      refine own_go (fun _ kk_ => XS.iload X16.here hx rfl (hb hby at_189) rfl kk_) ?_
      show own_G p e below s _ _ _ (T16.setTop (mkF m 191 #[.val (.int x0), .val (.int x1), .val (.int x2), .val (.int x3), .val (.int x4), .val (.int x5), .val (.int (1 : Int32)), .val (.int (Int32.ofNat ub)), .val (.int B8), .val (.int B9), .val (.int B10), .val (.int B11), .val (.int B12), .val (.int B13), .val (.int B14), .val (.int B15), .val (.int B16), .val (.int B17), .val (.int x0), .val (.int x1), .val (.int P20), .val (.int P21), .val (.int (Int32.ofNat kA)), .val (.int (Int32.ofNat kB)), .val (.ref b13), .val (.ref b15), .unset] [(.int B8), (.int x0), (.ref b13)]))
      obtain ⟨cq17, kq17, q17a, q17b, q17c⟩ := isOf hZ e16 FPx16.1.1
      obtain ⟨_, _, ⟨T17, L17, k17, n17⟩, -, X17, ⟨Lc17, hQ17, l17, y17, z17⟩, st17⟩ := X16.virtualBack hx (y := (⟨"com/example/relyguard/relyguard/Footprint", "touch", "(IZ)V"⟩ : MethodName)) (z := (⟨"com/example/relyguard/relyguard/Footprint", "touch", "(IZ)V"⟩ : MethodName)) hown (mvT hZ (hw _ (List.mem_of_getElem? (i := 82) rfl))) (mvT hZ (hw _ (List.mem_of_getElem? (i := 83) rfl))) (notFace_of_selects (args := #[]) (mvT hZ (hw _ (List.mem_of_getElem? (i := 85) rfl)))) (mvT hZ (hw _ (List.mem_of_getElem? (i := 85) rfl))) (mvT hZ (hw _ (List.mem_of_getElem? (i := 84) rfl))) (by decide) (backOf (W := 0) (rmTo0 l Z a0 hw [] b13 ca_x wa_x kc_x kw_x 0 0 0 0 0 0 0 x0 B8 h16 n0 Z16 FPx16 gx_x gc_x gw_x hB8) hZ (hw _ (List.mem_of_getElem? (i := 86) rfl)) (hw _ (List.mem_of_getElem? (i := 9) rfl)) (by decide) (by decide)) q17a q17c (g := (mkF m 191 #[.val (.int x0), .val (.int x1), .val (.int x2), .val (.int x3), .val (.int x4), .val (.int x5), .val (.int (1 : Int32)), .val (.int (Int32.ofNat ub)), .val (.int B8), .val (.int B9), .val (.int B10), .val (.int B11), .val (.int B12), .val (.int B13), .val (.int B14), .val (.int B15), .val (.int B16), .val (.int B17), .val (.int x0), .val (.int x1), .val (.int P20), .val (.int P21), .val (.int (Int32.ofNat kA)), .val (.int (Int32.ofNat kB)), .val (.ref b13), .val (.ref b15), .unset] [(.int B8), (.int x0), (.ref b13)])) rfl (by rw [hml]; rfl) (Steps.refl _) (argsL := [(.int x0), (.int B8)]) (rest := []) (lenOf pd_5 rfl) rfl (by show 2 * 0 + _ ≤ _; exact Nat.le_of_eq rfl) (hb hby at_191) (fun _ _ => ⟨rfl, e16, (by decide : 10 + 0 ≤ _), (by decide : 34 + 0 ≤ _)⟩)
      dsimp only [Pt.U, Pt.locs, Pt.cells, Pt.slots] at X17 l17 y17 z17 st17 hQ17
      subst l17 y17 z17
      generalize e17 : T17.heap = h17 at hQ17
      obtain ⟨rfl, N17q, Z17, K17, FP17⟩ := hQ17
      have N17 := Fr.app N16 N17q
      refine own_go (fun _ kk_ => st17.trans kk_) ?_
      have FO17 := own_FPkeep FP16 K17 (ninS (Ne.symm nxy0) (ninS (Ne.symm nxy3) (ninS (Ne.symm nxy6) nin0))) (ninS (Ne.symm nxy1) (ninS (Ne.symm nxy4) (ninS (Ne.symm nxy7) nin0))) (ninS (Ne.symm nxy2) (ninS (Ne.symm nxy5) (ninS (Ne.symm nxy8) nin0)))
      show own_G p e below s _ _ _ (T17.setTop (mkF m 194 #[.val (.int x0), .val (.int x1), .val (.int x2), .val (.int x3), .val (.int x4), .val (.int x5), .val (.int (1 : Int32)), .val (.int (Int32.ofNat ub)), .val (.int B8), .val (.int B9), .val (.int B10), .val (.int B11), .val (.int B12), .val (.int B13), .val (.int B14), .val (.int B15), .val (.int B16), .val (.int B17), .val (.int x0), .val (.int x1), .val (.int P20), .val (.int P21), .val (.int (Int32.ofNat kA)), .val (.int (Int32.ofNat kB)), .val (.ref b13), .val (.ref b15), .unset] []))
      refine own_go (fun _ kk_ => XS.iload X17.here hx rfl (hb hby at_194) rfl kk_) ?_
      show own_G p e below s _ _ _ (T17.setTop (mkF m 196 #[.val (.int x0), .val (.int x1), .val (.int x2), .val (.int x3), .val (.int x4), .val (.int x5), .val (.int (1 : Int32)), .val (.int (Int32.ofNat ub)), .val (.int B8), .val (.int B9), .val (.int B10), .val (.int B11), .val (.int B12), .val (.int B13), .val (.int B14), .val (.int B15), .val (.int B16), .val (.int B17), .val (.int x0), .val (.int x1), .val (.int P20), .val (.int P21), .val (.int (Int32.ofNat kA)), .val (.int (Int32.ofNat kB)), .val (.ref b13), .val (.ref b15), .unset] [(.int (1 : Int32))]))
      refine own_go (fun _ kk_ => XS.iconst X17.here hx rfl (hb hby at_196) kk_) ?_
      show own_G p e below s _ _ _ (T17.setTop (mkF m 197 #[.val (.int x0), .val (.int x1), .val (.int x2), .val (.int x3), .val (.int x4), .val (.int x5), .val (.int (1 : Int32)), .val (.int (Int32.ofNat ub)), .val (.int B8), .val (.int B9), .val (.int B10), .val (.int B11), .val (.int B12), .val (.int B13), .val (.int B14), .val (.int B15), .val (.int B16), .val (.int B17), .val (.int x0), .val (.int x1), .val (.int P20), .val (.int P21), .val (.int (Int32.ofNat kA)), .val (.int (Int32.ofNat kB)), .val (.ref b13), .val (.ref b15), .unset] [(.int (2 : Int32)), (.int (1 : Int32))]))
      refine own_ic_ltY X17 hx (pc := 197) (pc' := 209) (hb hby at_197) (by decide) (by decide) (by decide) ?_
      exact Ja _ _ _ x0 0 B8 0 (X17.more (by decide) (by decide)) N17 e17 Z17 (fun _ => ⟨rfl, rfl⟩) (fun q => absurd q (by decide)) FP17 FO17
    · skip
      show own_G p e below s _ _ _ (T16.setTop (mkF m 179 #[.val (.int x0), .val (.int x1), .val (.int x2), .val (.int x3), .val (.int x4), .val (.int x5), .val (.int (2 : Int32)), .val (.int (Int32.ofNat ub)), .val (.int B8), .val (.int B9), .val (.int B10), .val (.int B11), .val (.int B12), .val (.int B13), .val (.int B14), .val (.int B15), .val (.int B16), .val (.int B17), .val (.int x0), .val (.int x1), .val (.int P20), .val (.int P21), .val (.int (Int32.ofNat kA)), .val (.int (Int32.ofNat kB)), .val (.ref b13), .val (.ref b15), .unset] []))
      refine own_go (fun _ kk_ => XS.iload X16.here hx rfl (hb hby at_179) rfl kk_) ?_
      show own_G p e below s _ _ _ (T16.setTop (mkF m 181 #[.val (.int x0), .val (.int x1), .val (.int x2), .val (.int x3), .val (.int x4), .val (.int x5), .val (.int (2 : Int32)), .val (.int (Int32.ofNat ub)), .val (.int B8), .val (.int B9), .val (.int B10), .val (.int B11), .val (.int B12), .val (.int B13), .val (.int B14), .val (.int B15), .val (.int B16), .val (.int B17), .val (.int x0), .val (.int x1), .val (.int P20), .val (.int P21), .val (.int (Int32.ofNat kA)), .val (.int (Int32.ofNat kB)), .val (.ref b13), .val (.ref b15), .unset] [(.int (2 : Int32))]))
      refine own_go (fun _ kk_ => XS.iconst X16.here hx rfl (hb hby at_181) kk_) ?_
      show own_G p e below s _ _ _ (T16.setTop (mkF m 182 #[.val (.int x0), .val (.int x1), .val (.int x2), .val (.int x3), .val (.int x4), .val (.int x5), .val (.int (2 : Int32)), .val (.int (Int32.ofNat ub)), .val (.int B8), .val (.int B9), .val (.int B10), .val (.int B11), .val (.int B12), .val (.int B13), .val (.int B14), .val (.int B15), .val (.int B16), .val (.int B17), .val (.int x0), .val (.int x1), .val (.int P20), .val (.int P21), .val (.int (Int32.ofNat kA)), .val (.int (Int32.ofNat kB)), .val (.ref b13), .val (.ref b15), .unset] [(.int (1 : Int32)), (.int (2 : Int32))]))
      refine own_ic_ltN X16 hx (pc := 182) (hb hby at_182) (by decide) ?_
      show own_G p e below s _ _ _ (T16.setTop (mkF m 185 #[.val (.int x0), .val (.int x1), .val (.int x2), .val (.int x3), .val (.int x4), .val (.int x5), .val (.int (2 : Int32)), .val (.int (Int32.ofNat ub)), .val (.int B8), .val (.int B9), .val (.int B10), .val (.int B11), .val (.int B12), .val (.int B13), .val (.int B14), .val (.int B15), .val (.int B16), .val (.int B17), .val (.int x0), .val (.int x1), .val (.int P20), .val (.int P21), .val (.int (Int32.ofNat kA)), .val (.int (Int32.ofNat kB)), .val (.ref b13), .val (.ref b15), .unset] []))
      refine own_go (fun _ kk_ => XS.aload X16.here hx rfl (hb hby at_185) rfl rfl kk_) ?_
      show own_G p e below s _ _ _ (T16.setTop (mkF m 187 #[.val (.int x0), .val (.int x1), .val (.int x2), .val (.int x3), .val (.int x4), .val (.int x5), .val (.int (2 : Int32)), .val (.int (Int32.ofNat ub)), .val (.int B8), .val (.int B9), .val (.int B10), .val (.int B11), .val (.int B12), .val (.int B13), .val (.int B14), .val (.int B15), .val (.int B16), .val (.int B17), .val (.int x0), .val (.int x1), .val (.int P20), .val (.int P21), .val (.int (Int32.ofNat kA)), .val (.int (Int32.ofNat kB)), .val (.ref b13), .val (.ref b15), .unset] [(.ref b13)]))
      refine own_go (fun _ kk_ => XS.iload X16.here hx rfl (hb hby at_187) rfl kk_) ?_
      show own_G p e below s _ _ _ (T16.setTop (mkF m 189 #[.val (.int x0), .val (.int x1), .val (.int x2), .val (.int x3), .val (.int x4), .val (.int x5), .val (.int (2 : Int32)), .val (.int (Int32.ofNat ub)), .val (.int B8), .val (.int B9), .val (.int B10), .val (.int B11), .val (.int B12), .val (.int B13), .val (.int B14), .val (.int B15), .val (.int B16), .val (.int B17), .val (.int x0), .val (.int x1), .val (.int P20), .val (.int P21), .val (.int (Int32.ofNat kA)), .val (.int (Int32.ofNat kB)), .val (.ref b13), .val (.ref b15), .unset] [(.int x0), (.ref b13)]))
      refine own_go (fun _ kk_ => XS.iload X16.here hx rfl (hb hby at_189) rfl kk_) ?_
      show own_G p e below s _ _ _ (T16.setTop (mkF m 191 #[.val (.int x0), .val (.int x1), .val (.int x2), .val (.int x3), .val (.int x4), .val (.int x5), .val (.int (2 : Int32)), .val (.int (Int32.ofNat ub)), .val (.int B8), .val (.int B9), .val (.int B10), .val (.int B11), .val (.int B12), .val (.int B13), .val (.int B14), .val (.int B15), .val (.int B16), .val (.int B17), .val (.int x0), .val (.int x1), .val (.int P20), .val (.int P21), .val (.int (Int32.ofNat kA)), .val (.int (Int32.ofNat kB)), .val (.ref b13), .val (.ref b15), .unset] [(.int B8), (.int x0), (.ref b13)]))
      obtain ⟨cq18, kq18, q18a, q18b, q18c⟩ := isOf hZ e16 FPx16.1.1
      obtain ⟨_, _, ⟨T18, L18, k18, n18⟩, -, X18, ⟨Lc18, hQ18, l18, y18, z18⟩, st18⟩ := X16.virtualBack hx (y := (⟨"com/example/relyguard/relyguard/Footprint", "touch", "(IZ)V"⟩ : MethodName)) (z := (⟨"com/example/relyguard/relyguard/Footprint", "touch", "(IZ)V"⟩ : MethodName)) hown (mvT hZ (hw _ (List.mem_of_getElem? (i := 82) rfl))) (mvT hZ (hw _ (List.mem_of_getElem? (i := 83) rfl))) (notFace_of_selects (args := #[]) (mvT hZ (hw _ (List.mem_of_getElem? (i := 85) rfl)))) (mvT hZ (hw _ (List.mem_of_getElem? (i := 85) rfl))) (mvT hZ (hw _ (List.mem_of_getElem? (i := 84) rfl))) (by decide) (backOf (W := 0) (rmTo0 l Z a0 hw [] b13 ca_x wa_x kc_x kw_x 0 0 0 0 0 0 0 x0 B8 h16 n0 Z16 FPx16 gx_x gc_x gw_x hB8) hZ (hw _ (List.mem_of_getElem? (i := 86) rfl)) (hw _ (List.mem_of_getElem? (i := 9) rfl)) (by decide) (by decide)) q18a q18c (g := (mkF m 191 #[.val (.int x0), .val (.int x1), .val (.int x2), .val (.int x3), .val (.int x4), .val (.int x5), .val (.int (2 : Int32)), .val (.int (Int32.ofNat ub)), .val (.int B8), .val (.int B9), .val (.int B10), .val (.int B11), .val (.int B12), .val (.int B13), .val (.int B14), .val (.int B15), .val (.int B16), .val (.int B17), .val (.int x0), .val (.int x1), .val (.int P20), .val (.int P21), .val (.int (Int32.ofNat kA)), .val (.int (Int32.ofNat kB)), .val (.ref b13), .val (.ref b15), .unset] [(.int B8), (.int x0), (.ref b13)])) rfl (by rw [hml]; rfl) (Steps.refl _) (argsL := [(.int x0), (.int B8)]) (rest := []) (lenOf pd_5 rfl) rfl (by show 2 * 0 + _ ≤ _; exact Nat.le_of_eq rfl) (hb hby at_191) (fun _ _ => ⟨rfl, e16, (by decide : 10 + 0 ≤ _), (by decide : 34 + 0 ≤ _)⟩)
      dsimp only [Pt.U, Pt.locs, Pt.cells, Pt.slots] at X18 l18 y18 z18 st18 hQ18
      subst l18 y18 z18
      generalize e18 : T18.heap = h18 at hQ18
      obtain ⟨rfl, N18q, Z18, K18, FP18⟩ := hQ18
      have N18 := Fr.app N16 N18q
      refine own_go (fun _ kk_ => st18.trans kk_) ?_
      have FO18 := own_FPkeep FP16 K18 (ninS (Ne.symm nxy0) (ninS (Ne.symm nxy3) (ninS (Ne.symm nxy6) nin0))) (ninS (Ne.symm nxy1) (ninS (Ne.symm nxy4) (ninS (Ne.symm nxy7) nin0))) (ninS (Ne.symm nxy2) (ninS (Ne.symm nxy5) (ninS (Ne.symm nxy8) nin0)))
      show own_G p e below s _ _ _ (T18.setTop (mkF m 194 #[.val (.int x0), .val (.int x1), .val (.int x2), .val (.int x3), .val (.int x4), .val (.int x5), .val (.int (2 : Int32)), .val (.int (Int32.ofNat ub)), .val (.int B8), .val (.int B9), .val (.int B10), .val (.int B11), .val (.int B12), .val (.int B13), .val (.int B14), .val (.int B15), .val (.int B16), .val (.int B17), .val (.int x0), .val (.int x1), .val (.int P20), .val (.int P21), .val (.int (Int32.ofNat kA)), .val (.int (Int32.ofNat kB)), .val (.ref b13), .val (.ref b15), .unset] []))
      refine own_go (fun _ kk_ => XS.iload X18.here hx rfl (hb hby at_194) rfl kk_) ?_
      show own_G p e below s _ _ _ (T18.setTop (mkF m 196 #[.val (.int x0), .val (.int x1), .val (.int x2), .val (.int x3), .val (.int x4), .val (.int x5), .val (.int (2 : Int32)), .val (.int (Int32.ofNat ub)), .val (.int B8), .val (.int B9), .val (.int B10), .val (.int B11), .val (.int B12), .val (.int B13), .val (.int B14), .val (.int B15), .val (.int B16), .val (.int B17), .val (.int x0), .val (.int x1), .val (.int P20), .val (.int P21), .val (.int (Int32.ofNat kA)), .val (.int (Int32.ofNat kB)), .val (.ref b13), .val (.ref b15), .unset] [(.int (2 : Int32))]))
      refine own_go (fun _ kk_ => XS.iconst X18.here hx rfl (hb hby at_196) kk_) ?_
      show own_G p e below s _ _ _ (T18.setTop (mkF m 197 #[.val (.int x0), .val (.int x1), .val (.int x2), .val (.int x3), .val (.int x4), .val (.int x5), .val (.int (2 : Int32)), .val (.int (Int32.ofNat ub)), .val (.int B8), .val (.int B9), .val (.int B10), .val (.int B11), .val (.int B12), .val (.int B13), .val (.int B14), .val (.int B15), .val (.int B16), .val (.int B17), .val (.int x0), .val (.int x1), .val (.int P20), .val (.int P21), .val (.int (Int32.ofNat kA)), .val (.int (Int32.ofNat kB)), .val (.ref b13), .val (.ref b15), .unset] [(.int (2 : Int32)), (.int (2 : Int32))]))
      refine own_ic_ltN X18 hx (pc := 197) (hb hby at_197) (by decide) ?_
      show own_G p e below s _ _ _ (T18.setTop (mkF m 200 #[.val (.int x0), .val (.int x1), .val (.int x2), .val (.int x3), .val (.int x4), .val (.int x5), .val (.int (2 : Int32)), .val (.int (Int32.ofNat ub)), .val (.int B8), .val (.int B9), .val (.int B10), .val (.int B11), .val (.int B12), .val (.int B13), .val (.int B14), .val (.int B15), .val (.int B16), .val (.int B17), .val (.int x0), .val (.int x1), .val (.int P20), .val (.int P21), .val (.int (Int32.ofNat kA)), .val (.int (Int32.ofNat kB)), .val (.ref b13), .val (.ref b15), .unset] []))
      refine own_go (fun _ kk_ => XS.aload X18.here hx rfl (hb hby at_200) rfl rfl kk_) ?_
      show own_G p e below s _ _ _ (T18.setTop (mkF m 202 #[.val (.int x0), .val (.int x1), .val (.int x2), .val (.int x3), .val (.int x4), .val (.int x5), .val (.int (2 : Int32)), .val (.int (Int32.ofNat ub)), .val (.int B8), .val (.int B9), .val (.int B10), .val (.int B11), .val (.int B12), .val (.int B13), .val (.int B14), .val (.int B15), .val (.int B16), .val (.int B17), .val (.int x0), .val (.int x1), .val (.int P20), .val (.int P21), .val (.int (Int32.ofNat kA)), .val (.int (Int32.ofNat kB)), .val (.ref b13), .val (.ref b15), .unset] [(.ref b13)]))
      refine own_go (fun _ kk_ => XS.iload X18.here hx rfl (hb hby at_202) rfl kk_) ?_
      show own_G p e below s _ _ _ (T18.setTop (mkF m 204 #[.val (.int x0), .val (.int x1), .val (.int x2), .val (.int x3), .val (.int x4), .val (.int x5), .val (.int (2 : Int32)), .val (.int (Int32.ofNat ub)), .val (.int B8), .val (.int B9), .val (.int B10), .val (.int B11), .val (.int B12), .val (.int B13), .val (.int B14), .val (.int B15), .val (.int B16), .val (.int B17), .val (.int x0), .val (.int x1), .val (.int P20), .val (.int P21), .val (.int (Int32.ofNat kA)), .val (.int (Int32.ofNat kB)), .val (.ref b13), .val (.ref b15), .unset] [(.int x1), (.ref b13)]))
      refine own_go (fun _ kk_ => XS.iload X18.here hx rfl (hb hby at_204) rfl kk_) ?_
      show own_G p e below s _ _ _ (T18.setTop (mkF m 206 #[.val (.int x0), .val (.int x1), .val (.int x2), .val (.int x3), .val (.int x4), .val (.int x5), .val (.int (2 : Int32)), .val (.int (Int32.ofNat ub)), .val (.int B8), .val (.int B9), .val (.int B10), .val (.int B11), .val (.int B12), .val (.int B13), .val (.int B14), .val (.int B15), .val (.int B16), .val (.int B17), .val (.int x0), .val (.int x1), .val (.int P20), .val (.int P21), .val (.int (Int32.ofNat kA)), .val (.int (Int32.ofNat kB)), .val (.ref b13), .val (.ref b15), .unset] [(.int B9), (.int x1), (.ref b13)]))
      obtain ⟨cq19, kq19, q19a, q19b, q19c⟩ := isOf hZ e18 FP18.1.1
      obtain ⟨_, _, ⟨T19, L19, k19, n19⟩, -, X19, ⟨Lc19, hQ19, l19, y19, z19⟩, st19⟩ := X18.virtualBack hx (y := (⟨"com/example/relyguard/relyguard/Footprint", "touch", "(IZ)V"⟩ : MethodName)) (z := (⟨"com/example/relyguard/relyguard/Footprint", "touch", "(IZ)V"⟩ : MethodName)) hown (mvT hZ (hw _ (List.mem_of_getElem? (i := 82) rfl))) (mvT hZ (hw _ (List.mem_of_getElem? (i := 83) rfl))) (notFace_of_selects (args := #[]) (mvT hZ (hw _ (List.mem_of_getElem? (i := 85) rfl)))) (mvT hZ (hw _ (List.mem_of_getElem? (i := 85) rfl))) (mvT hZ (hw _ (List.mem_of_getElem? (i := 84) rfl))) (by decide) (backOf (W := 0) (rmTo1 l Z a0 hw [] b13 ca_x wa_x kc_x kw_x x0 0 B8 0 0 0 0 x1 B9 h18 n0 Z18 FP18 gx_x gc_x gw_x hB9) hZ (hw _ (List.mem_of_getElem? (i := 86) rfl)) (hw _ (List.mem_of_getElem? (i := 9) rfl)) (by decide) (by decide)) q19a q19c (g := (mkF m 206 #[.val (.int x0), .val (.int x1), .val (.int x2), .val (.int x3), .val (.int x4), .val (.int x5), .val (.int (2 : Int32)), .val (.int (Int32.ofNat ub)), .val (.int B8), .val (.int B9), .val (.int B10), .val (.int B11), .val (.int B12), .val (.int B13), .val (.int B14), .val (.int B15), .val (.int B16), .val (.int B17), .val (.int x0), .val (.int x1), .val (.int P20), .val (.int P21), .val (.int (Int32.ofNat kA)), .val (.int (Int32.ofNat kB)), .val (.ref b13), .val (.ref b15), .unset] [(.int B9), (.int x1), (.ref b13)])) rfl (by rw [hml]; rfl) (Steps.refl _) (argsL := [(.int x1), (.int B9)]) (rest := []) (lenOf pd_5 rfl) rfl (by show 2 * 0 + _ ≤ _; exact Nat.le_of_eq rfl) (hb hby at_206) (fun _ _ => ⟨rfl, e18, (by decide : 10 + 0 ≤ _), (by decide : 34 + 0 ≤ _)⟩)
      dsimp only [Pt.U, Pt.locs, Pt.cells, Pt.slots] at X19 l19 y19 z19 st19 hQ19
      subst l19 y19 z19
      generalize e19 : T19.heap = h19 at hQ19
      obtain ⟨rfl, N19q, Z19, K19, FP19⟩ := hQ19
      have N19 := Fr.app N18 N19q
      refine own_go (fun _ kk_ => st19.trans kk_) ?_
      have FO19 := own_FPkeep FO18 K19 (ninS (Ne.symm nxy0) (ninS (Ne.symm nxy3) (ninS (Ne.symm nxy6) nin0))) (ninS (Ne.symm nxy1) (ninS (Ne.symm nxy4) (ninS (Ne.symm nxy7) nin0))) (ninS (Ne.symm nxy2) (ninS (Ne.symm nxy5) (ninS (Ne.symm nxy8) nin0)))
      exact Ja _ _ _ x0 x1 B8 B9 (X19.more (by decide) (by decide)) N19 e19 Z19 (fun _ => ⟨rfl, rfl⟩) (fun _ => ⟨rfl, rfl⟩) FP19 FO19
  intro Ta ha loa c0 c1 w0 w1 Xa Na ea Za hcx0 hcx1 FPxa FPya
  show own_G p e below s _ _ _ (Ta.setTop (mkF m 209 #[.val (.int x0), .val (.int x1), .val (.int x2), .val (.int x3), .val (.int x4), .val (.int x5), .val (.int (Int32.ofNat ta)), .val (.int (Int32.ofNat ub)), .val (.int B8), .val (.int B9), .val (.int B10), .val (.int B11), .val (.int B12), .val (.int B13), .val (.int B14), .val (.int B15), .val (.int B16), .val (.int B17), .val (.int x0), .val (.int x1), .val (.int P20), .val (.int P21), .val (.int (Int32.ofNat kA)), .val (.int (Int32.ofNat kB)), .val (.ref b13), .val (.ref b15), .unset] []))
  suffices Jb : ∀ (Tb : State) (hb : Heap) (lob : List Loc) (d0 d1 v0 v1 : Int32), Stand p l e room_1 s m #[(.int x0), (.int x1), (.int x2), (.int x3), (.int x4), (.int x5)] below meth c Tb lob 10 34 → Fr n0 lob → Tb.heap = hb → n0 ≤ hb.size → (0 < ub → d0 = P20 ∧ v0 = B10) → (1 < ub → d1 = P21 ∧ v1 = B11) → own_FP Z hb b13 ca_x wa_x kc_x kw_x (Int32.ofNat ta) c0 c1 w0 w1 0 0 0 → own_FP Z hb b15 ca_y wa_y kc_y kw_y (Int32.ofNat ub) d0 d1 v0 v1 0 0 0 → own_G p e below s (Q_rm0 Z x0 x1 x2 x3 x4 x5 h0 n0) 32 192 (Tb.setTop (mkF m 239 #[.val (.int x0), .val (.int x1), .val (.int x2), .val (.int x3), .val (.int x4), .val (.int x5), .val (.int (Int32.ofNat ta)), .val (.int (Int32.ofNat ub)), .val (.int B8), .val (.int B9), .val (.int B10), .val (.int B11), .val (.int B12), .val (.int B13), .val (.int B14), .val (.int B15), .val (.int B16), .val (.int B17), .val (.int x0), .val (.int x1), .val (.int P20), .val (.int P21), .val (.int (Int32.ofNat kA)), .val (.int (Int32.ofNat kB)), .val (.ref b13), .val (.ref b15), .unset] [])) by
    rcases (by omega : ub = 0 ∨ ub = 1 ∨ ub = 2) with rfl | rfl | rfl
    · skip
      show own_G p e below s _ _ _ (Ta.setTop (mkF m 209 #[.val (.int x0), .val (.int x1), .val (.int x2), .val (.int x3), .val (.int x4), .val (.int x5), .val (.int (Int32.ofNat ta)), .val (.int (0 : Int32)), .val (.int B8), .val (.int B9), .val (.int B10), .val (.int B11), .val (.int B12), .val (.int B13), .val (.int B14), .val (.int B15), .val (.int B16), .val (.int B17), .val (.int x0), .val (.int x1), .val (.int P20), .val (.int P21), .val (.int (Int32.ofNat kA)), .val (.int (Int32.ofNat kB)), .val (.ref b13), .val (.ref b15), .unset] []))
      refine own_go (fun _ kk_ => XS.iload Xa.here hx rfl (hb hby at_209) rfl kk_) ?_
      show own_G p e below s _ _ _ (Ta.setTop (mkF m 211 #[.val (.int x0), .val (.int x1), .val (.int x2), .val (.int x3), .val (.int x4), .val (.int x5), .val (.int (Int32.ofNat ta)), .val (.int (0 : Int32)), .val (.int B8), .val (.int B9), .val (.int B10), .val (.int B11), .val (.int B12), .val (.int B13), .val (.int B14), .val (.int B15), .val (.int B16), .val (.int B17), .val (.int x0), .val (.int x1), .val (.int P20), .val (.int P21), .val (.int (Int32.ofNat kA)), .val (.int (Int32.ofNat kB)), .val (.ref b13), .val (.ref b15), .unset] [(.int (0 : Int32))]))
      refine own_go (fun _ kk_ => XS.iconst Xa.here hx rfl (hb hby at_211) kk_) ?_
      show own_G p e below s _ _ _ (Ta.setTop (mkF m 212 #[.val (.int x0), .val (.int x1), .val (.int x2), .val (.int x3), .val (.int x4), .val (.int x5), .val (.int (Int32.ofNat ta)), .val (.int (0 : Int32)), .val (.int B8), .val (.int B9), .val (.int B10), .val (.int B11), .val (.int B12), .val (.int B13), .val (.int B14), .val (.int B15), .val (.int B16), .val (.int B17), .val (.int x0), .val (.int x1), .val (.int P20), .val (.int P21), .val (.int (Int32.ofNat kA)), .val (.int (Int32.ofNat kB)), .val (.ref b13), .val (.ref b15), .unset] [(.int (1 : Int32)), (.int (0 : Int32))]))
      refine own_ic_ltY Xa hx (pc := 212) (pc' := 224) (hb hby at_212) (by decide) (by decide) (by decide) ?_
      show own_G p e below s _ _ _ (Ta.setTop (mkF m 224 #[.val (.int x0), .val (.int x1), .val (.int x2), .val (.int x3), .val (.int x4), .val (.int x5), .val (.int (Int32.ofNat ta)), .val (.int (0 : Int32)), .val (.int B8), .val (.int B9), .val (.int B10), .val (.int B11), .val (.int B12), .val (.int B13), .val (.int B14), .val (.int B15), .val (.int B16), .val (.int B17), .val (.int x0), .val (.int x1), .val (.int P20), .val (.int P21), .val (.int (Int32.ofNat kA)), .val (.int (Int32.ofNat kB)), .val (.ref b13), .val (.ref b15), .unset] []))
      refine own_go (fun _ kk_ => XS.iload Xa.here hx rfl (hb hby at_224) rfl kk_) ?_
      show own_G p e below s _ _ _ (Ta.setTop (mkF m 226 #[.val (.int x0), .val (.int x1), .val (.int x2), .val (.int x3), .val (.int x4), .val (.int x5), .val (.int (Int32.ofNat ta)), .val (.int (0 : Int32)), .val (.int B8), .val (.int B9), .val (.int B10), .val (.int B11), .val (.int B12), .val (.int B13), .val (.int B14), .val (.int B15), .val (.int B16), .val (.int B17), .val (.int x0), .val (.int x1), .val (.int P20), .val (.int P21), .val (.int (Int32.ofNat kA)), .val (.int (Int32.ofNat kB)), .val (.ref b13), .val (.ref b15), .unset] [(.int (0 : Int32))]))
      refine own_go (fun _ kk_ => XS.iconst Xa.here hx rfl (hb hby at_226) kk_) ?_
      show own_G p e below s _ _ _ (Ta.setTop (mkF m 227 #[.val (.int x0), .val (.int x1), .val (.int x2), .val (.int x3), .val (.int x4), .val (.int x5), .val (.int (Int32.ofNat ta)), .val (.int (0 : Int32)), .val (.int B8), .val (.int B9), .val (.int B10), .val (.int B11), .val (.int B12), .val (.int B13), .val (.int B14), .val (.int B15), .val (.int B16), .val (.int B17), .val (.int x0), .val (.int x1), .val (.int P20), .val (.int P21), .val (.int (Int32.ofNat kA)), .val (.int (Int32.ofNat kB)), .val (.ref b13), .val (.ref b15), .unset] [(.int (2 : Int32)), (.int (0 : Int32))]))
      refine own_ic_ltY Xa hx (pc := 227) (pc' := 239) (hb hby at_227) (by decide) (by decide) (by decide) ?_
      exact Jb _ _ _ 0 0 0 0 (Xa.more (by decide) (by decide)) Na ea Za (fun q => absurd q (by decide)) (fun q => absurd q (by decide)) FPxa FPya
    · skip
      show own_G p e below s _ _ _ (Ta.setTop (mkF m 209 #[.val (.int x0), .val (.int x1), .val (.int x2), .val (.int x3), .val (.int x4), .val (.int x5), .val (.int (Int32.ofNat ta)), .val (.int (1 : Int32)), .val (.int B8), .val (.int B9), .val (.int B10), .val (.int B11), .val (.int B12), .val (.int B13), .val (.int B14), .val (.int B15), .val (.int B16), .val (.int B17), .val (.int x0), .val (.int x1), .val (.int P20), .val (.int P21), .val (.int (Int32.ofNat kA)), .val (.int (Int32.ofNat kB)), .val (.ref b13), .val (.ref b15), .unset] []))
      refine own_go (fun _ kk_ => XS.iload Xa.here hx rfl (hb hby at_209) rfl kk_) ?_
      show own_G p e below s _ _ _ (Ta.setTop (mkF m 211 #[.val (.int x0), .val (.int x1), .val (.int x2), .val (.int x3), .val (.int x4), .val (.int x5), .val (.int (Int32.ofNat ta)), .val (.int (1 : Int32)), .val (.int B8), .val (.int B9), .val (.int B10), .val (.int B11), .val (.int B12), .val (.int B13), .val (.int B14), .val (.int B15), .val (.int B16), .val (.int B17), .val (.int x0), .val (.int x1), .val (.int P20), .val (.int P21), .val (.int (Int32.ofNat kA)), .val (.int (Int32.ofNat kB)), .val (.ref b13), .val (.ref b15), .unset] [(.int (1 : Int32))]))
      refine own_go (fun _ kk_ => XS.iconst Xa.here hx rfl (hb hby at_211) kk_) ?_
      show own_G p e below s _ _ _ (Ta.setTop (mkF m 212 #[.val (.int x0), .val (.int x1), .val (.int x2), .val (.int x3), .val (.int x4), .val (.int x5), .val (.int (Int32.ofNat ta)), .val (.int (1 : Int32)), .val (.int B8), .val (.int B9), .val (.int B10), .val (.int B11), .val (.int B12), .val (.int B13), .val (.int B14), .val (.int B15), .val (.int B16), .val (.int B17), .val (.int x0), .val (.int x1), .val (.int P20), .val (.int P21), .val (.int (Int32.ofNat kA)), .val (.int (Int32.ofNat kB)), .val (.ref b13), .val (.ref b15), .unset] [(.int (1 : Int32)), (.int (1 : Int32))]))
      refine own_ic_ltN Xa hx (pc := 212) (hb hby at_212) (by decide) ?_
      show own_G p e below s _ _ _ (Ta.setTop (mkF m 215 #[.val (.int x0), .val (.int x1), .val (.int x2), .val (.int x3), .val (.int x4), .val (.int x5), .val (.int (Int32.ofNat ta)), .val (.int (1 : Int32)), .val (.int B8), .val (.int B9), .val (.int B10), .val (.int B11), .val (.int B12), .val (.int B13), .val (.int B14), .val (.int B15), .val (.int B16), .val (.int B17), .val (.int x0), .val (.int x1), .val (.int P20), .val (.int P21), .val (.int (Int32.ofNat kA)), .val (.int (Int32.ofNat kB)), .val (.ref b13), .val (.ref b15), .unset] []))
      refine own_go (fun _ kk_ => XS.aload Xa.here hx rfl (hb hby at_215) rfl rfl kk_) ?_
      show own_G p e below s _ _ _ (Ta.setTop (mkF m 217 #[.val (.int x0), .val (.int x1), .val (.int x2), .val (.int x3), .val (.int x4), .val (.int x5), .val (.int (Int32.ofNat ta)), .val (.int (1 : Int32)), .val (.int B8), .val (.int B9), .val (.int B10), .val (.int B11), .val (.int B12), .val (.int B13), .val (.int B14), .val (.int B15), .val (.int B16), .val (.int B17), .val (.int x0), .val (.int x1), .val (.int P20), .val (.int P21), .val (.int (Int32.ofNat kA)), .val (.int (Int32.ofNat kB)), .val (.ref b13), .val (.ref b15), .unset] [(.ref b15)]))
      refine own_go (fun _ kk_ => XS.iload Xa.here hx rfl (hb hby at_217) rfl kk_) ?_
      show own_G p e below s _ _ _ (Ta.setTop (mkF m 219 #[.val (.int x0), .val (.int x1), .val (.int x2), .val (.int x3), .val (.int x4), .val (.int x5), .val (.int (Int32.ofNat ta)), .val (.int (1 : Int32)), .val (.int B8), .val (.int B9), .val (.int B10), .val (.int B11), .val (.int B12), .val (.int B13), .val (.int B14), .val (.int B15), .val (.int B16), .val (.int B17), .val (.int x0), .val (.int x1), .val (.int P20), .val (.int P21), .val (.int (Int32.ofNat kA)), .val (.int (Int32.ofNat kB)), .val (.ref b13), .val (.ref b15), .unset] [(.int P20), (.ref b15)]))
      refine own_go (fun _ kk_ => XS.iload Xa.here hx rfl (hb hby at_219) rfl kk_) ?_
      show own_G p e below s _ _ _ (Ta.setTop (mkF m 221 #[.val (.int x0), .val (.int x1), .val (.int x2), .val (.int x3), .val (.int x4), .val (.int x5), .val (.int (Int32.ofNat ta)), .val (.int (1 : Int32)), .val (.int B8), .val (.int B9), .val (.int B10), .val (.int B11), .val (.int B12), .val (.int B13), .val (.int B14), .val (.int B15), .val (.int B16), .val (.int B17), .val (.int x0), .val (.int x1), .val (.int P20), .val (.int P21), .val (.int (Int32.ofNat kA)), .val (.int (Int32.ofNat kB)), .val (.ref b13), .val (.ref b15), .unset] [(.int B10), (.int P20), (.ref b15)]))
      obtain ⟨cq20, kq20, q20a, q20b, q20c⟩ := isOf hZ ea FPya.1.1
      obtain ⟨_, _, ⟨T20, L20, k20, n20⟩, -, X20, ⟨Lc20, hQ20, l20, y20, z20⟩, st20⟩ := Xa.virtualBack hx (y := (⟨"com/example/relyguard/relyguard/Footprint", "touch", "(IZ)V"⟩ : MethodName)) (z := (⟨"com/example/relyguard/relyguard/Footprint", "touch", "(IZ)V"⟩ : MethodName)) hown (mvT hZ (hw _ (List.mem_of_getElem? (i := 82) rfl))) (mvT hZ (hw _ (List.mem_of_getElem? (i := 83) rfl))) (notFace_of_selects (args := #[]) (mvT hZ (hw _ (List.mem_of_getElem? (i := 85) rfl)))) (mvT hZ (hw _ (List.mem_of_getElem? (i := 85) rfl))) (mvT hZ (hw _ (List.mem_of_getElem? (i := 84) rfl))) (by decide) (backOf (W := 0) (rmTo0 l Z a0 hw [] b15 ca_y wa_y kc_y kw_y 0 0 0 0 0 0 0 P20 B10 ha n0 Za FPya gx_y gc_y gw_y hB10) hZ (hw _ (List.mem_of_getElem? (i := 86) rfl)) (hw _ (List.mem_of_getElem? (i := 9) rfl)) (by decide) (by decide)) q20a q20c (g := (mkF m 221 #[.val (.int x0), .val (.int x1), .val (.int x2), .val (.int x3), .val (.int x4), .val (.int x5), .val (.int (Int32.ofNat ta)), .val (.int (1 : Int32)), .val (.int B8), .val (.int B9), .val (.int B10), .val (.int B11), .val (.int B12), .val (.int B13), .val (.int B14), .val (.int B15), .val (.int B16), .val (.int B17), .val (.int x0), .val (.int x1), .val (.int P20), .val (.int P21), .val (.int (Int32.ofNat kA)), .val (.int (Int32.ofNat kB)), .val (.ref b13), .val (.ref b15), .unset] [(.int B10), (.int P20), (.ref b15)])) rfl (by rw [hml]; rfl) (Steps.refl _) (argsL := [(.int P20), (.int B10)]) (rest := []) (lenOf pd_5 rfl) rfl (by show 2 * 0 + _ ≤ _; exact Nat.le_of_eq rfl) (hb hby at_221) (fun _ _ => ⟨rfl, ea, (by decide : 10 + 0 ≤ _), (by decide : 34 + 0 ≤ _)⟩)
      dsimp only [Pt.U, Pt.locs, Pt.cells, Pt.slots] at X20 l20 y20 z20 st20 hQ20
      subst l20 y20 z20
      generalize e20 : T20.heap = h20 at hQ20
      obtain ⟨rfl, N20q, Z20, K20, FP20⟩ := hQ20
      have N20 := Fr.app Na N20q
      refine own_go (fun _ kk_ => st20.trans kk_) ?_
      have FO20 := own_FPkeep FPxa K20 (ninS nxy0 (ninS nxy1 (ninS nxy2 nin0))) (ninS nxy3 (ninS nxy4 (ninS nxy5 nin0))) (ninS nxy6 (ninS nxy7 (ninS nxy8 nin0)))
      show own_G p e below s _ _ _ (T20.setTop (mkF m 224 #[.val (.int x0), .val (.int x1), .val (.int x2), .val (.int x3), .val (.int x4), .val (.int x5), .val (.int (Int32.ofNat ta)), .val (.int (1 : Int32)), .val (.int B8), .val (.int B9), .val (.int B10), .val (.int B11), .val (.int B12), .val (.int B13), .val (.int B14), .val (.int B15), .val (.int B16), .val (.int B17), .val (.int x0), .val (.int x1), .val (.int P20), .val (.int P21), .val (.int (Int32.ofNat kA)), .val (.int (Int32.ofNat kB)), .val (.ref b13), .val (.ref b15), .unset] []))
      refine own_go (fun _ kk_ => XS.iload X20.here hx rfl (hb hby at_224) rfl kk_) ?_
      show own_G p e below s _ _ _ (T20.setTop (mkF m 226 #[.val (.int x0), .val (.int x1), .val (.int x2), .val (.int x3), .val (.int x4), .val (.int x5), .val (.int (Int32.ofNat ta)), .val (.int (1 : Int32)), .val (.int B8), .val (.int B9), .val (.int B10), .val (.int B11), .val (.int B12), .val (.int B13), .val (.int B14), .val (.int B15), .val (.int B16), .val (.int B17), .val (.int x0), .val (.int x1), .val (.int P20), .val (.int P21), .val (.int (Int32.ofNat kA)), .val (.int (Int32.ofNat kB)), .val (.ref b13), .val (.ref b15), .unset] [(.int (1 : Int32))]))
      refine own_go (fun _ kk_ => XS.iconst X20.here hx rfl (hb hby at_226) kk_) ?_
      show own_G p e below s _ _ _ (T20.setTop (mkF m 227 #[.val (.int x0), .val (.int x1), .val (.int x2), .val (.int x3), .val (.int x4), .val (.int x5), .val (.int (Int32.ofNat ta)), .val (.int (1 : Int32)), .val (.int B8), .val (.int B9), .val (.int B10), .val (.int B11), .val (.int B12), .val (.int B13), .val (.int B14), .val (.int B15), .val (.int B16), .val (.int B17), .val (.int x0), .val (.int x1), .val (.int P20), .val (.int P21), .val (.int (Int32.ofNat kA)), .val (.int (Int32.ofNat kB)), .val (.ref b13), .val (.ref b15), .unset] [(.int (2 : Int32)), (.int (1 : Int32))]))
      refine own_ic_ltY X20 hx (pc := 227) (pc' := 239) (hb hby at_227) (by decide) (by decide) (by decide) ?_
      exact Jb _ _ _ P20 0 B10 0 (X20.more (by decide) (by decide)) N20 e20 Z20 (fun _ => ⟨rfl, rfl⟩) (fun q => absurd q (by decide)) FO20 FP20
    · skip
      show own_G p e below s _ _ _ (Ta.setTop (mkF m 209 #[.val (.int x0), .val (.int x1), .val (.int x2), .val (.int x3), .val (.int x4), .val (.int x5), .val (.int (Int32.ofNat ta)), .val (.int (2 : Int32)), .val (.int B8), .val (.int B9), .val (.int B10), .val (.int B11), .val (.int B12), .val (.int B13), .val (.int B14), .val (.int B15), .val (.int B16), .val (.int B17), .val (.int x0), .val (.int x1), .val (.int P20), .val (.int P21), .val (.int (Int32.ofNat kA)), .val (.int (Int32.ofNat kB)), .val (.ref b13), .val (.ref b15), .unset] []))
      refine own_go (fun _ kk_ => XS.iload Xa.here hx rfl (hb hby at_209) rfl kk_) ?_
      show own_G p e below s _ _ _ (Ta.setTop (mkF m 211 #[.val (.int x0), .val (.int x1), .val (.int x2), .val (.int x3), .val (.int x4), .val (.int x5), .val (.int (Int32.ofNat ta)), .val (.int (2 : Int32)), .val (.int B8), .val (.int B9), .val (.int B10), .val (.int B11), .val (.int B12), .val (.int B13), .val (.int B14), .val (.int B15), .val (.int B16), .val (.int B17), .val (.int x0), .val (.int x1), .val (.int P20), .val (.int P21), .val (.int (Int32.ofNat kA)), .val (.int (Int32.ofNat kB)), .val (.ref b13), .val (.ref b15), .unset] [(.int (2 : Int32))]))
      refine own_go (fun _ kk_ => XS.iconst Xa.here hx rfl (hb hby at_211) kk_) ?_
      show own_G p e below s _ _ _ (Ta.setTop (mkF m 212 #[.val (.int x0), .val (.int x1), .val (.int x2), .val (.int x3), .val (.int x4), .val (.int x5), .val (.int (Int32.ofNat ta)), .val (.int (2 : Int32)), .val (.int B8), .val (.int B9), .val (.int B10), .val (.int B11), .val (.int B12), .val (.int B13), .val (.int B14), .val (.int B15), .val (.int B16), .val (.int B17), .val (.int x0), .val (.int x1), .val (.int P20), .val (.int P21), .val (.int (Int32.ofNat kA)), .val (.int (Int32.ofNat kB)), .val (.ref b13), .val (.ref b15), .unset] [(.int (1 : Int32)), (.int (2 : Int32))]))
      refine own_ic_ltN Xa hx (pc := 212) (hb hby at_212) (by decide) ?_
      show own_G p e below s _ _ _ (Ta.setTop (mkF m 215 #[.val (.int x0), .val (.int x1), .val (.int x2), .val (.int x3), .val (.int x4), .val (.int x5), .val (.int (Int32.ofNat ta)), .val (.int (2 : Int32)), .val (.int B8), .val (.int B9), .val (.int B10), .val (.int B11), .val (.int B12), .val (.int B13), .val (.int B14), .val (.int B15), .val (.int B16), .val (.int B17), .val (.int x0), .val (.int x1), .val (.int P20), .val (.int P21), .val (.int (Int32.ofNat kA)), .val (.int (Int32.ofNat kB)), .val (.ref b13), .val (.ref b15), .unset] []))
      refine own_go (fun _ kk_ => XS.aload Xa.here hx rfl (hb hby at_215) rfl rfl kk_) ?_
      show own_G p e below s _ _ _ (Ta.setTop (mkF m 217 #[.val (.int x0), .val (.int x1), .val (.int x2), .val (.int x3), .val (.int x4), .val (.int x5), .val (.int (Int32.ofNat ta)), .val (.int (2 : Int32)), .val (.int B8), .val (.int B9), .val (.int B10), .val (.int B11), .val (.int B12), .val (.int B13), .val (.int B14), .val (.int B15), .val (.int B16), .val (.int B17), .val (.int x0), .val (.int x1), .val (.int P20), .val (.int P21), .val (.int (Int32.ofNat kA)), .val (.int (Int32.ofNat kB)), .val (.ref b13), .val (.ref b15), .unset] [(.ref b15)]))
      refine own_go (fun _ kk_ => XS.iload Xa.here hx rfl (hb hby at_217) rfl kk_) ?_
      show own_G p e below s _ _ _ (Ta.setTop (mkF m 219 #[.val (.int x0), .val (.int x1), .val (.int x2), .val (.int x3), .val (.int x4), .val (.int x5), .val (.int (Int32.ofNat ta)), .val (.int (2 : Int32)), .val (.int B8), .val (.int B9), .val (.int B10), .val (.int B11), .val (.int B12), .val (.int B13), .val (.int B14), .val (.int B15), .val (.int B16), .val (.int B17), .val (.int x0), .val (.int x1), .val (.int P20), .val (.int P21), .val (.int (Int32.ofNat kA)), .val (.int (Int32.ofNat kB)), .val (.ref b13), .val (.ref b15), .unset] [(.int P20), (.ref b15)]))
      refine own_go (fun _ kk_ => XS.iload Xa.here hx rfl (hb hby at_219) rfl kk_) ?_
      show own_G p e below s _ _ _ (Ta.setTop (mkF m 221 #[.val (.int x0), .val (.int x1), .val (.int x2), .val (.int x3), .val (.int x4), .val (.int x5), .val (.int (Int32.ofNat ta)), .val (.int (2 : Int32)), .val (.int B8), .val (.int B9), .val (.int B10), .val (.int B11), .val (.int B12), .val (.int B13), .val (.int B14), .val (.int B15), .val (.int B16), .val (.int B17), .val (.int x0), .val (.int x1), .val (.int P20), .val (.int P21), .val (.int (Int32.ofNat kA)), .val (.int (Int32.ofNat kB)), .val (.ref b13), .val (.ref b15), .unset] [(.int B10), (.int P20), (.ref b15)]))
      obtain ⟨cq21, kq21, q21a, q21b, q21c⟩ := isOf hZ ea FPya.1.1
      obtain ⟨_, _, ⟨T21, L21, k21, n21⟩, -, X21, ⟨Lc21, hQ21, l21, y21, z21⟩, st21⟩ := Xa.virtualBack hx (y := (⟨"com/example/relyguard/relyguard/Footprint", "touch", "(IZ)V"⟩ : MethodName)) (z := (⟨"com/example/relyguard/relyguard/Footprint", "touch", "(IZ)V"⟩ : MethodName)) hown (mvT hZ (hw _ (List.mem_of_getElem? (i := 82) rfl))) (mvT hZ (hw _ (List.mem_of_getElem? (i := 83) rfl))) (notFace_of_selects (args := #[]) (mvT hZ (hw _ (List.mem_of_getElem? (i := 85) rfl)))) (mvT hZ (hw _ (List.mem_of_getElem? (i := 85) rfl))) (mvT hZ (hw _ (List.mem_of_getElem? (i := 84) rfl))) (by decide) (backOf (W := 0) (rmTo0 l Z a0 hw [] b15 ca_y wa_y kc_y kw_y 0 0 0 0 0 0 0 P20 B10 ha n0 Za FPya gx_y gc_y gw_y hB10) hZ (hw _ (List.mem_of_getElem? (i := 86) rfl)) (hw _ (List.mem_of_getElem? (i := 9) rfl)) (by decide) (by decide)) q21a q21c (g := (mkF m 221 #[.val (.int x0), .val (.int x1), .val (.int x2), .val (.int x3), .val (.int x4), .val (.int x5), .val (.int (Int32.ofNat ta)), .val (.int (2 : Int32)), .val (.int B8), .val (.int B9), .val (.int B10), .val (.int B11), .val (.int B12), .val (.int B13), .val (.int B14), .val (.int B15), .val (.int B16), .val (.int B17), .val (.int x0), .val (.int x1), .val (.int P20), .val (.int P21), .val (.int (Int32.ofNat kA)), .val (.int (Int32.ofNat kB)), .val (.ref b13), .val (.ref b15), .unset] [(.int B10), (.int P20), (.ref b15)])) rfl (by rw [hml]; rfl) (Steps.refl _) (argsL := [(.int P20), (.int B10)]) (rest := []) (lenOf pd_5 rfl) rfl (by show 2 * 0 + _ ≤ _; exact Nat.le_of_eq rfl) (hb hby at_221) (fun _ _ => ⟨rfl, ea, (by decide : 10 + 0 ≤ _), (by decide : 34 + 0 ≤ _)⟩)
      dsimp only [Pt.U, Pt.locs, Pt.cells, Pt.slots] at X21 l21 y21 z21 st21 hQ21
      subst l21 y21 z21
      generalize e21 : T21.heap = h21 at hQ21
      obtain ⟨rfl, N21q, Z21, K21, FP21⟩ := hQ21
      have N21 := Fr.app Na N21q
      refine own_go (fun _ kk_ => st21.trans kk_) ?_
      have FO21 := own_FPkeep FPxa K21 (ninS nxy0 (ninS nxy1 (ninS nxy2 nin0))) (ninS nxy3 (ninS nxy4 (ninS nxy5 nin0))) (ninS nxy6 (ninS nxy7 (ninS nxy8 nin0)))
      show own_G p e below s _ _ _ (T21.setTop (mkF m 224 #[.val (.int x0), .val (.int x1), .val (.int x2), .val (.int x3), .val (.int x4), .val (.int x5), .val (.int (Int32.ofNat ta)), .val (.int (2 : Int32)), .val (.int B8), .val (.int B9), .val (.int B10), .val (.int B11), .val (.int B12), .val (.int B13), .val (.int B14), .val (.int B15), .val (.int B16), .val (.int B17), .val (.int x0), .val (.int x1), .val (.int P20), .val (.int P21), .val (.int (Int32.ofNat kA)), .val (.int (Int32.ofNat kB)), .val (.ref b13), .val (.ref b15), .unset] []))
      refine own_go (fun _ kk_ => XS.iload X21.here hx rfl (hb hby at_224) rfl kk_) ?_
      show own_G p e below s _ _ _ (T21.setTop (mkF m 226 #[.val (.int x0), .val (.int x1), .val (.int x2), .val (.int x3), .val (.int x4), .val (.int x5), .val (.int (Int32.ofNat ta)), .val (.int (2 : Int32)), .val (.int B8), .val (.int B9), .val (.int B10), .val (.int B11), .val (.int B12), .val (.int B13), .val (.int B14), .val (.int B15), .val (.int B16), .val (.int B17), .val (.int x0), .val (.int x1), .val (.int P20), .val (.int P21), .val (.int (Int32.ofNat kA)), .val (.int (Int32.ofNat kB)), .val (.ref b13), .val (.ref b15), .unset] [(.int (2 : Int32))]))
      refine own_go (fun _ kk_ => XS.iconst X21.here hx rfl (hb hby at_226) kk_) ?_
      show own_G p e below s _ _ _ (T21.setTop (mkF m 227 #[.val (.int x0), .val (.int x1), .val (.int x2), .val (.int x3), .val (.int x4), .val (.int x5), .val (.int (Int32.ofNat ta)), .val (.int (2 : Int32)), .val (.int B8), .val (.int B9), .val (.int B10), .val (.int B11), .val (.int B12), .val (.int B13), .val (.int B14), .val (.int B15), .val (.int B16), .val (.int B17), .val (.int x0), .val (.int x1), .val (.int P20), .val (.int P21), .val (.int (Int32.ofNat kA)), .val (.int (Int32.ofNat kB)), .val (.ref b13), .val (.ref b15), .unset] [(.int (2 : Int32)), (.int (2 : Int32))]))
      refine own_ic_ltN X21 hx (pc := 227) (hb hby at_227) (by decide) ?_
      show own_G p e below s _ _ _ (T21.setTop (mkF m 230 #[.val (.int x0), .val (.int x1), .val (.int x2), .val (.int x3), .val (.int x4), .val (.int x5), .val (.int (Int32.ofNat ta)), .val (.int (2 : Int32)), .val (.int B8), .val (.int B9), .val (.int B10), .val (.int B11), .val (.int B12), .val (.int B13), .val (.int B14), .val (.int B15), .val (.int B16), .val (.int B17), .val (.int x0), .val (.int x1), .val (.int P20), .val (.int P21), .val (.int (Int32.ofNat kA)), .val (.int (Int32.ofNat kB)), .val (.ref b13), .val (.ref b15), .unset] []))
      refine own_go (fun _ kk_ => XS.aload X21.here hx rfl (hb hby at_230) rfl rfl kk_) ?_
      show own_G p e below s _ _ _ (T21.setTop (mkF m 232 #[.val (.int x0), .val (.int x1), .val (.int x2), .val (.int x3), .val (.int x4), .val (.int x5), .val (.int (Int32.ofNat ta)), .val (.int (2 : Int32)), .val (.int B8), .val (.int B9), .val (.int B10), .val (.int B11), .val (.int B12), .val (.int B13), .val (.int B14), .val (.int B15), .val (.int B16), .val (.int B17), .val (.int x0), .val (.int x1), .val (.int P20), .val (.int P21), .val (.int (Int32.ofNat kA)), .val (.int (Int32.ofNat kB)), .val (.ref b13), .val (.ref b15), .unset] [(.ref b15)]))
      refine own_go (fun _ kk_ => XS.iload X21.here hx rfl (hb hby at_232) rfl kk_) ?_
      show own_G p e below s _ _ _ (T21.setTop (mkF m 234 #[.val (.int x0), .val (.int x1), .val (.int x2), .val (.int x3), .val (.int x4), .val (.int x5), .val (.int (Int32.ofNat ta)), .val (.int (2 : Int32)), .val (.int B8), .val (.int B9), .val (.int B10), .val (.int B11), .val (.int B12), .val (.int B13), .val (.int B14), .val (.int B15), .val (.int B16), .val (.int B17), .val (.int x0), .val (.int x1), .val (.int P20), .val (.int P21), .val (.int (Int32.ofNat kA)), .val (.int (Int32.ofNat kB)), .val (.ref b13), .val (.ref b15), .unset] [(.int P21), (.ref b15)]))
      refine own_go (fun _ kk_ => XS.iload X21.here hx rfl (hb hby at_234) rfl kk_) ?_
      show own_G p e below s _ _ _ (T21.setTop (mkF m 236 #[.val (.int x0), .val (.int x1), .val (.int x2), .val (.int x3), .val (.int x4), .val (.int x5), .val (.int (Int32.ofNat ta)), .val (.int (2 : Int32)), .val (.int B8), .val (.int B9), .val (.int B10), .val (.int B11), .val (.int B12), .val (.int B13), .val (.int B14), .val (.int B15), .val (.int B16), .val (.int B17), .val (.int x0), .val (.int x1), .val (.int P20), .val (.int P21), .val (.int (Int32.ofNat kA)), .val (.int (Int32.ofNat kB)), .val (.ref b13), .val (.ref b15), .unset] [(.int B11), (.int P21), (.ref b15)]))
      obtain ⟨cq22, kq22, q22a, q22b, q22c⟩ := isOf hZ e21 FP21.1.1
      obtain ⟨_, _, ⟨T22, L22, k22, n22⟩, -, X22, ⟨Lc22, hQ22, l22, y22, z22⟩, st22⟩ := X21.virtualBack hx (y := (⟨"com/example/relyguard/relyguard/Footprint", "touch", "(IZ)V"⟩ : MethodName)) (z := (⟨"com/example/relyguard/relyguard/Footprint", "touch", "(IZ)V"⟩ : MethodName)) hown (mvT hZ (hw _ (List.mem_of_getElem? (i := 82) rfl))) (mvT hZ (hw _ (List.mem_of_getElem? (i := 83) rfl))) (notFace_of_selects (args := #[]) (mvT hZ (hw _ (List.mem_of_getElem? (i := 85) rfl)))) (mvT hZ (hw _ (List.mem_of_getElem? (i := 85) rfl))) (mvT hZ (hw _ (List.mem_of_getElem? (i := 84) rfl))) (by decide) (backOf (W := 0) (rmTo1 l Z a0 hw [] b15 ca_y wa_y kc_y kw_y P20 0 B10 0 0 0 0 P21 B11 h21 n0 Z21 FP21 gx_y gc_y gw_y hB11) hZ (hw _ (List.mem_of_getElem? (i := 86) rfl)) (hw _ (List.mem_of_getElem? (i := 9) rfl)) (by decide) (by decide)) q22a q22c (g := (mkF m 236 #[.val (.int x0), .val (.int x1), .val (.int x2), .val (.int x3), .val (.int x4), .val (.int x5), .val (.int (Int32.ofNat ta)), .val (.int (2 : Int32)), .val (.int B8), .val (.int B9), .val (.int B10), .val (.int B11), .val (.int B12), .val (.int B13), .val (.int B14), .val (.int B15), .val (.int B16), .val (.int B17), .val (.int x0), .val (.int x1), .val (.int P20), .val (.int P21), .val (.int (Int32.ofNat kA)), .val (.int (Int32.ofNat kB)), .val (.ref b13), .val (.ref b15), .unset] [(.int B11), (.int P21), (.ref b15)])) rfl (by rw [hml]; rfl) (Steps.refl _) (argsL := [(.int P21), (.int B11)]) (rest := []) (lenOf pd_5 rfl) rfl (by show 2 * 0 + _ ≤ _; exact Nat.le_of_eq rfl) (hb hby at_236) (fun _ _ => ⟨rfl, e21, (by decide : 10 + 0 ≤ _), (by decide : 34 + 0 ≤ _)⟩)
      dsimp only [Pt.U, Pt.locs, Pt.cells, Pt.slots] at X22 l22 y22 z22 st22 hQ22
      subst l22 y22 z22
      generalize e22 : T22.heap = h22 at hQ22
      obtain ⟨rfl, N22q, Z22, K22, FP22⟩ := hQ22
      have N22 := Fr.app N21 N22q
      refine own_go (fun _ kk_ => st22.trans kk_) ?_
      have FO22 := own_FPkeep FO21 K22 (ninS nxy0 (ninS nxy1 (ninS nxy2 nin0))) (ninS nxy3 (ninS nxy4 (ninS nxy5 nin0))) (ninS nxy6 (ninS nxy7 (ninS nxy8 nin0)))
      exact Jb _ _ _ P20 P21 B10 B11 (X22.more (by decide) (by decide)) N22 e22 Z22 (fun _ => ⟨rfl, rfl⟩) (fun _ => ⟨rfl, rfl⟩) FO22 FP22
  intro Tb hb_ lob d0 d1 v0 v1 Xb Nb eb Zb hdy0 hdy1 FPxb FPyb
  show own_G p e below s _ _ _ (Tb.setTop (mkF m 239 #[.val (.int x0), .val (.int x1), .val (.int x2), .val (.int x3), .val (.int x4), .val (.int x5), .val (.int (Int32.ofNat ta)), .val (.int (Int32.ofNat ub)), .val (.int B8), .val (.int B9), .val (.int B10), .val (.int B11), .val (.int B12), .val (.int B13), .val (.int B14), .val (.int B15), .val (.int B16), .val (.int B17), .val (.int x0), .val (.int x1), .val (.int P20), .val (.int P21), .val (.int (Int32.ofNat kA)), .val (.int (Int32.ofNat kB)), .val (.ref b13), .val (.ref b15), .unset] []))
  suffices Jf0 : ∀ (Tf0 : State) (hf0 : Heap) (lof0 : List Loc), Stand p l e room_1 s m #[(.int x0), (.int x1), (.int x2), (.int x3), (.int x4), (.int x5)] below meth c Tf0 lof0 10 34 → Fr n0 lof0 → Tf0.heap = hf0 → n0 ≤ hf0.size → own_FP Z hf0 b13 ca_x wa_x kc_x kw_x (Int32.ofNat ta) c0 c1 w0 w1 B12 0 0 → own_FP Z hf0 b15 ca_y wa_y kc_y kw_y (Int32.ofNat ub) d0 d1 v0 v1 0 0 0 → own_G p e below s (Q_rm0 Z x0 x1 x2 x3 x4 x5 h0 n0) 32 192 (Tf0.setTop (mkF m 249 #[.val (.int x0), .val (.int x1), .val (.int x2), .val (.int x3), .val (.int x4), .val (.int x5), .val (.int (Int32.ofNat ta)), .val (.int (Int32.ofNat ub)), .val (.int B8), .val (.int B9), .val (.int B10), .val (.int B11), .val (.int B12), .val (.int B13), .val (.int B14), .val (.int B15), .val (.int B16), .val (.int B17), .val (.int x0), .val (.int x1), .val (.int P20), .val (.int P21), .val (.int (Int32.ofNat kA)), .val (.int (Int32.ofNat kB)), .val (.ref b13), .val (.ref b15), .unset] [])) by
    show own_G p e below s _ _ _ (Tb.setTop (mkF m 239 #[.val (.int x0), .val (.int x1), .val (.int x2), .val (.int x3), .val (.int x4), .val (.int x5), .val (.int (Int32.ofNat ta)), .val (.int (Int32.ofNat ub)), .val (.int B8), .val (.int B9), .val (.int B10), .val (.int B11), .val (.int B12), .val (.int B13), .val (.int B14), .val (.int B15), .val (.int B16), .val (.int B17), .val (.int x0), .val (.int x1), .val (.int P20), .val (.int P21), .val (.int (Int32.ofNat kA)), .val (.int (Int32.ofNat kB)), .val (.ref b13), .val (.ref b15), .unset] []))
    refine own_go (fun _ kk_ => XS.iload Xb.here hx rfl (hb hby at_239) rfl kk_) ?_
    show own_G p e below s _ _ _ (Tb.setTop (mkF m 241 #[.val (.int x0), .val (.int x1), .val (.int x2), .val (.int x3), .val (.int x4), .val (.int x5), .val (.int (Int32.ofNat ta)), .val (.int (Int32.ofNat ub)), .val (.int B8), .val (.int B9), .val (.int B10), .val (.int B11), .val (.int B12), .val (.int B13), .val (.int B14), .val (.int B15), .val (.int B16), .val (.int B17), .val (.int x0), .val (.int x1), .val (.int P20), .val (.int P21), .val (.int (Int32.ofNat kA)), .val (.int (Int32.ofNat kB)), .val (.ref b13), .val (.ref b15), .unset] [(.int B12)]))
    refine own_if_eq Xb hx (pc := 241) (pc' := 249) (hb hby at_241) (by decide) (by decide) (fun hc241 => ?_) (fun hc241 => ?_)
    · exact Jf0 _ _ _  (Xb.more (by decide) (by decide)) Nb eb Zb  (by rw [hc241]; exact FPxb) FPyb
    · show own_G p e below s _ _ _ (Tb.setTop (mkF m 244 #[.val (.int x0), .val (.int x1), .val (.int x2), .val (.int x3), .val (.int x4), .val (.int x5), .val (.int (Int32.ofNat ta)), .val (.int (Int32.ofNat ub)), .val (.int B8), .val (.int B9), .val (.int B10), .val (.int B11), .val (.int B12), .val (.int B13), .val (.int B14), .val (.int B15), .val (.int B16), .val (.int B17), .val (.int x0), .val (.int x1), .val (.int P20), .val (.int P21), .val (.int (Int32.ofNat kA)), .val (.int (Int32.ofNat kB)), .val (.ref b13), .val (.ref b15), .unset] []))
      refine own_go (fun _ kk_ => XS.aload Xb.here hx rfl (hb hby at_244) rfl rfl kk_) ?_
      show own_G p e below s _ _ _ (Tb.setTop (mkF m 246 #[.val (.int x0), .val (.int x1), .val (.int x2), .val (.int x3), .val (.int x4), .val (.int x5), .val (.int (Int32.ofNat ta)), .val (.int (Int32.ofNat ub)), .val (.int B8), .val (.int B9), .val (.int B10), .val (.int B11), .val (.int B12), .val (.int B13), .val (.int B14), .val (.int B15), .val (.int B16), .val (.int B17), .val (.int x0), .val (.int x1), .val (.int P20), .val (.int P21), .val (.int (Int32.ofNat kA)), .val (.int (Int32.ofNat kB)), .val (.ref b13), .val (.ref b15), .unset] [(.ref b13)]))
      obtain ⟨cq23, kq23, q23a, q23b, q23c⟩ := isOf hZ eb FPxb.1.1
      obtain ⟨_, _, ⟨T23, L23, k23, n23⟩, -, X23, ⟨Lc23, hQ23, l23, y23, z23⟩, st23⟩ := Xb.virtualBack hx (y := (⟨"com/example/relyguard/relyguard/Footprint", "callBegan", "()V"⟩ : MethodName)) (z := (⟨"com/example/relyguard/relyguard/Footprint", "callBegan", "()V"⟩ : MethodName)) hown (mvT hZ (hw _ (List.mem_of_getElem? (i := 87) rfl))) (mvT hZ (hw _ (List.mem_of_getElem? (i := 88) rfl))) (notFace_of_selects (args := #[]) (mvT hZ (hw _ (List.mem_of_getElem? (i := 90) rfl)))) (mvT hZ (hw _ (List.mem_of_getElem? (i := 90) rfl))) (mvT hZ (hw _ (List.mem_of_getElem? (i := 89) rfl))) (by decide) (backOf (W := 0) (rm_callBegan l Z a0 hw [] b13 ca_x wa_x kc_x kw_x (Int32.ofNat ta) c0 c1 w0 w1 0 0 0 hb_ n0 Zb FPxb gx_x) hZ (hw _ (List.mem_of_getElem? (i := 91) rfl)) (hw _ (List.mem_of_getElem? (i := 9) rfl)) (by decide) (by decide)) q23a q23c (g := (mkF m 246 #[.val (.int x0), .val (.int x1), .val (.int x2), .val (.int x3), .val (.int x4), .val (.int x5), .val (.int (Int32.ofNat ta)), .val (.int (Int32.ofNat ub)), .val (.int B8), .val (.int B9), .val (.int B10), .val (.int B11), .val (.int B12), .val (.int B13), .val (.int B14), .val (.int B15), .val (.int B16), .val (.int B17), .val (.int x0), .val (.int x1), .val (.int P20), .val (.int P21), .val (.int (Int32.ofNat kA)), .val (.int (Int32.ofNat kB)), .val (.ref b13), .val (.ref b15), .unset] [(.ref b13)])) rfl (by rw [hml]; rfl) (Steps.refl _) (argsL := []) (rest := []) (lenOf pd_2 rfl) rfl (by show 2 * 0 + _ ≤ _; exact Nat.le_of_eq rfl) (hb hby at_246) (fun _ _ => ⟨rfl, eb, (by decide : 10 + 0 ≤ _), (by decide : 34 + 0 ≤ _)⟩)
      dsimp only [Pt.U, Pt.locs, Pt.cells, Pt.slots] at X23 l23 y23 z23 st23 hQ23
      subst l23 y23 z23
      generalize e23 : T23.heap = h23 at hQ23
      obtain ⟨rfl, N23q, Z23, K23, FP23⟩ := hQ23
      have N23 := Fr.app Nb N23q
      refine own_go (fun _ kk_ => st23.trans kk_) ?_
      have FO23 := own_FPkeep FPyb K23 (ninS (Ne.symm nxy0) nin0) (ninS (Ne.symm nxy1) nin0) (ninS (Ne.symm nxy2) nin0)
      exact Jf0 _ _ _  (X23.more (by decide) (by decide)) N23 e23 Z23  (by rw [hB12.resolve_left hc241]; exact FP23) FO23
  intro Tf0 hf0 lof0 Xf0 Nf0 ef0 Zf0 FPxf0 FPyf0
  show own_G p e below s _ _ _ (Tf0.setTop (mkF m 249 #[.val (.int x0), .val (.int x1), .val (.int x2), .val (.int x3), .val (.int x4), .val (.int x5), .val (.int (Int32.ofNat ta)), .val (.int (Int32.ofNat ub)), .val (.int B8), .val (.int B9), .val (.int B10), .val (.int B11), .val (.int B12), .val (.int B13), .val (.int B14), .val (.int B15), .val (.int B16), .val (.int B17), .val (.int x0), .val (.int x1), .val (.int P20), .val (.int P21), .val (.int (Int32.ofNat kA)), .val (.int (Int32.ofNat kB)), .val (.ref b13), .val (.ref b15), .unset] []))
  suffices Jf1 : ∀ (Tf1 : State) (hf1 : Heap) (lof1 : List Loc), Stand p l e room_1 s m #[(.int x0), (.int x1), (.int x2), (.int x3), (.int x4), (.int x5)] below meth c Tf1 lof1 10 34 → Fr n0 lof1 → Tf1.heap = hf1 → n0 ≤ hf1.size → own_FP Z hf1 b13 ca_x wa_x kc_x kw_x (Int32.ofNat ta) c0 c1 w0 w1 B12 B13 0 → own_FP Z hf1 b15 ca_y wa_y kc_y kw_y (Int32.ofNat ub) d0 d1 v0 v1 0 0 0 → own_G p e below s (Q_rm0 Z x0 x1 x2 x3 x4 x5 h0 n0) 32 192 (Tf1.setTop (mkF m 259 #[.val (.int x0), .val (.int x1), .val (.int x2), .val (.int x3), .val (.int x4), .val (.int x5), .val (.int (Int32.ofNat ta)), .val (.int (Int32.ofNat ub)), .val (.int B8), .val (.int B9), .val (.int B10), .val (.int B11), .val (.int B12), .val (.int B13), .val (.int B14), .val (.int B15), .val (.int B16), .val (.int B17), .val (.int x0), .val (.int x1), .val (.int P20), .val (.int P21), .val (.int (Int32.ofNat kA)), .val (.int (Int32.ofNat kB)), .val (.ref b13), .val (.ref b15), .unset] [])) by
    show own_G p e below s _ _ _ (Tf0.setTop (mkF m 249 #[.val (.int x0), .val (.int x1), .val (.int x2), .val (.int x3), .val (.int x4), .val (.int x5), .val (.int (Int32.ofNat ta)), .val (.int (Int32.ofNat ub)), .val (.int B8), .val (.int B9), .val (.int B10), .val (.int B11), .val (.int B12), .val (.int B13), .val (.int B14), .val (.int B15), .val (.int B16), .val (.int B17), .val (.int x0), .val (.int x1), .val (.int P20), .val (.int P21), .val (.int (Int32.ofNat kA)), .val (.int (Int32.ofNat kB)), .val (.ref b13), .val (.ref b15), .unset] []))
    refine own_go (fun _ kk_ => XS.iload Xf0.here hx rfl (hb hby at_249) rfl kk_) ?_
    show own_G p e below s _ _ _ (Tf0.setTop (mkF m 251 #[.val (.int x0), .val (.int x1), .val (.int x2), .val (.int x3), .val (.int x4), .val (.int x5), .val (.int (Int32.ofNat ta)), .val (.int (Int32.ofNat ub)), .val (.int B8), .val (.int B9), .val (.int B10), .val (.int B11), .val (.int B12), .val (.int B13), .val (.int B14), .val (.int B15), .val (.int B16), .val (.int B17), .val (.int x0), .val (.int x1), .val (.int P20), .val (.int P21), .val (.int (Int32.ofNat kA)), .val (.int (Int32.ofNat kB)), .val (.ref b13), .val (.ref b15), .unset] [(.int B13)]))
    refine own_if_eq Xf0 hx (pc := 251) (pc' := 259) (hb hby at_251) (by decide) (by decide) (fun hc251 => ?_) (fun hc251 => ?_)
    · exact Jf1 _ _ _  (Xf0.more (by decide) (by decide)) Nf0 ef0 Zf0  (by rw [hc251]; exact FPxf0) FPyf0
    · show own_G p e below s _ _ _ (Tf0.setTop (mkF m 254 #[.val (.int x0), .val (.int x1), .val (.int x2), .val (.int x3), .val (.int x4), .val (.int x5), .val (.int (Int32.ofNat ta)), .val (.int (Int32.ofNat ub)), .val (.int B8), .val (.int B9), .val (.int B10), .val (.int B11), .val (.int B12), .val (.int B13), .val (.int B14), .val (.int B15), .val (.int B16), .val (.int B17), .val (.int x0), .val (.int x1), .val (.int P20), .val (.int P21), .val (.int (Int32.ofNat kA)), .val (.int (Int32.ofNat kB)), .val (.ref b13), .val (.ref b15), .unset] []))
      refine own_go (fun _ kk_ => XS.aload Xf0.here hx rfl (hb hby at_254) rfl rfl kk_) ?_
      show own_G p e below s _ _ _ (Tf0.setTop (mkF m 256 #[.val (.int x0), .val (.int x1), .val (.int x2), .val (.int x3), .val (.int x4), .val (.int x5), .val (.int (Int32.ofNat ta)), .val (.int (Int32.ofNat ub)), .val (.int B8), .val (.int B9), .val (.int B10), .val (.int B11), .val (.int B12), .val (.int B13), .val (.int B14), .val (.int B15), .val (.int B16), .val (.int B17), .val (.int x0), .val (.int x1), .val (.int P20), .val (.int P21), .val (.int (Int32.ofNat kA)), .val (.int (Int32.ofNat kB)), .val (.ref b13), .val (.ref b15), .unset] [(.ref b13)]))
      obtain ⟨cq24, kq24, q24a, q24b, q24c⟩ := isOf hZ ef0 FPxf0.1.1
      obtain ⟨_, _, ⟨T24, L24, k24, n24⟩, -, X24, ⟨Lc24, hQ24, l24, y24, z24⟩, st24⟩ := Xf0.virtualBack hx (y := (⟨"com/example/relyguard/relyguard/Footprint", "callReturned", "()V"⟩ : MethodName)) (z := (⟨"com/example/relyguard/relyguard/Footprint", "callReturned", "()V"⟩ : MethodName)) hown (mvT hZ (hw _ (List.mem_of_getElem? (i := 97) rfl))) (mvT hZ (hw _ (List.mem_of_getElem? (i := 98) rfl))) (notFace_of_selects (args := #[]) (mvT hZ (hw _ (List.mem_of_getElem? (i := 100) rfl)))) (mvT hZ (hw _ (List.mem_of_getElem? (i := 100) rfl))) (mvT hZ (hw _ (List.mem_of_getElem? (i := 99) rfl))) (by decide) (backOf (W := 0) (rm_callReturned l Z a0 hw [] b13 ca_x wa_x kc_x kw_x (Int32.ofNat ta) c0 c1 w0 w1 B12 0 0 hf0 n0 Zf0 FPxf0 gx_x) hZ (hw _ (List.mem_of_getElem? (i := 101) rfl)) (hw _ (List.mem_of_getElem? (i := 9) rfl)) (by decide) (by decide)) q24a q24c (g := (mkF m 256 #[.val (.int x0), .val (.int x1), .val (.int x2), .val (.int x3), .val (.int x4), .val (.int x5), .val (.int (Int32.ofNat ta)), .val (.int (Int32.ofNat ub)), .val (.int B8), .val (.int B9), .val (.int B10), .val (.int B11), .val (.int B12), .val (.int B13), .val (.int B14), .val (.int B15), .val (.int B16), .val (.int B17), .val (.int x0), .val (.int x1), .val (.int P20), .val (.int P21), .val (.int (Int32.ofNat kA)), .val (.int (Int32.ofNat kB)), .val (.ref b13), .val (.ref b15), .unset] [(.ref b13)])) rfl (by rw [hml]; rfl) (Steps.refl _) (argsL := []) (rest := []) (lenOf pd_2 rfl) rfl (by show 2 * 0 + _ ≤ _; exact Nat.le_of_eq rfl) (hb hby at_256) (fun _ _ => ⟨rfl, ef0, (by decide : 10 + 0 ≤ _), (by decide : 34 + 0 ≤ _)⟩)
      dsimp only [Pt.U, Pt.locs, Pt.cells, Pt.slots] at X24 l24 y24 z24 st24 hQ24
      subst l24 y24 z24
      generalize e24 : T24.heap = h24 at hQ24
      obtain ⟨rfl, N24q, Z24, K24, FP24⟩ := hQ24
      have N24 := Fr.app Nf0 N24q
      refine own_go (fun _ kk_ => st24.trans kk_) ?_
      have FO24 := own_FPkeep FPyf0 K24 (ninS (Ne.symm nxy0) nin0) (ninS (Ne.symm nxy1) nin0) (ninS (Ne.symm nxy2) nin0)
      exact Jf1 _ _ _  (X24.more (by decide) (by decide)) N24 e24 Z24  (by rw [hB13.resolve_left hc251]; exact FP24) FO24
  intro Tf1 hf1 lof1 Xf1 Nf1 ef1 Zf1 FPxf1 FPyf1
  show own_G p e below s _ _ _ (Tf1.setTop (mkF m 259 #[.val (.int x0), .val (.int x1), .val (.int x2), .val (.int x3), .val (.int x4), .val (.int x5), .val (.int (Int32.ofNat ta)), .val (.int (Int32.ofNat ub)), .val (.int B8), .val (.int B9), .val (.int B10), .val (.int B11), .val (.int B12), .val (.int B13), .val (.int B14), .val (.int B15), .val (.int B16), .val (.int B17), .val (.int x0), .val (.int x1), .val (.int P20), .val (.int P21), .val (.int (Int32.ofNat kA)), .val (.int (Int32.ofNat kB)), .val (.ref b13), .val (.ref b15), .unset] []))
  suffices Jf2 : ∀ (Tf2 : State) (hf2 : Heap) (lof2 : List Loc), Stand p l e room_1 s m #[(.int x0), (.int x1), (.int x2), (.int x3), (.int x4), (.int x5)] below meth c Tf2 lof2 10 34 → Fr n0 lof2 → Tf2.heap = hf2 → n0 ≤ hf2.size → own_FP Z hf2 b13 ca_x wa_x kc_x kw_x (Int32.ofNat ta) c0 c1 w0 w1 B12 B13 B14 → own_FP Z hf2 b15 ca_y wa_y kc_y kw_y (Int32.ofNat ub) d0 d1 v0 v1 0 0 0 → own_G p e below s (Q_rm0 Z x0 x1 x2 x3 x4 x5 h0 n0) 32 192 (Tf2.setTop (mkF m 269 #[.val (.int x0), .val (.int x1), .val (.int x2), .val (.int x3), .val (.int x4), .val (.int x5), .val (.int (Int32.ofNat ta)), .val (.int (Int32.ofNat ub)), .val (.int B8), .val (.int B9), .val (.int B10), .val (.int B11), .val (.int B12), .val (.int B13), .val (.int B14), .val (.int B15), .val (.int B16), .val (.int B17), .val (.int x0), .val (.int x1), .val (.int P20), .val (.int P21), .val (.int (Int32.ofNat kA)), .val (.int (Int32.ofNat kB)), .val (.ref b13), .val (.ref b15), .unset] [])) by
    show own_G p e below s _ _ _ (Tf1.setTop (mkF m 259 #[.val (.int x0), .val (.int x1), .val (.int x2), .val (.int x3), .val (.int x4), .val (.int x5), .val (.int (Int32.ofNat ta)), .val (.int (Int32.ofNat ub)), .val (.int B8), .val (.int B9), .val (.int B10), .val (.int B11), .val (.int B12), .val (.int B13), .val (.int B14), .val (.int B15), .val (.int B16), .val (.int B17), .val (.int x0), .val (.int x1), .val (.int P20), .val (.int P21), .val (.int (Int32.ofNat kA)), .val (.int (Int32.ofNat kB)), .val (.ref b13), .val (.ref b15), .unset] []))
    refine own_go (fun _ kk_ => XS.iload Xf1.here hx rfl (hb hby at_259) rfl kk_) ?_
    show own_G p e below s _ _ _ (Tf1.setTop (mkF m 261 #[.val (.int x0), .val (.int x1), .val (.int x2), .val (.int x3), .val (.int x4), .val (.int x5), .val (.int (Int32.ofNat ta)), .val (.int (Int32.ofNat ub)), .val (.int B8), .val (.int B9), .val (.int B10), .val (.int B11), .val (.int B12), .val (.int B13), .val (.int B14), .val (.int B15), .val (.int B16), .val (.int B17), .val (.int x0), .val (.int x1), .val (.int P20), .val (.int P21), .val (.int (Int32.ofNat kA)), .val (.int (Int32.ofNat kB)), .val (.ref b13), .val (.ref b15), .unset] [(.int B14)]))
    refine own_if_eq Xf1 hx (pc := 261) (pc' := 269) (hb hby at_261) (by decide) (by decide) (fun hc261 => ?_) (fun hc261 => ?_)
    · exact Jf2 _ _ _  (Xf1.more (by decide) (by decide)) Nf1 ef1 Zf1  (by rw [hc261]; exact FPxf1) FPyf1
    · show own_G p e below s _ _ _ (Tf1.setTop (mkF m 264 #[.val (.int x0), .val (.int x1), .val (.int x2), .val (.int x3), .val (.int x4), .val (.int x5), .val (.int (Int32.ofNat ta)), .val (.int (Int32.ofNat ub)), .val (.int B8), .val (.int B9), .val (.int B10), .val (.int B11), .val (.int B12), .val (.int B13), .val (.int B14), .val (.int B15), .val (.int B16), .val (.int B17), .val (.int x0), .val (.int x1), .val (.int P20), .val (.int P21), .val (.int (Int32.ofNat kA)), .val (.int (Int32.ofNat kB)), .val (.ref b13), .val (.ref b15), .unset] []))
      refine own_go (fun _ kk_ => XS.aload Xf1.here hx rfl (hb hby at_264) rfl rfl kk_) ?_
      show own_G p e below s _ _ _ (Tf1.setTop (mkF m 266 #[.val (.int x0), .val (.int x1), .val (.int x2), .val (.int x3), .val (.int x4), .val (.int x5), .val (.int (Int32.ofNat ta)), .val (.int (Int32.ofNat ub)), .val (.int B8), .val (.int B9), .val (.int B10), .val (.int B11), .val (.int B12), .val (.int B13), .val (.int B14), .val (.int B15), .val (.int B16), .val (.int B17), .val (.int x0), .val (.int x1), .val (.int P20), .val (.int P21), .val (.int (Int32.ofNat kA)), .val (.int (Int32.ofNat kB)), .val (.ref b13), .val (.ref b15), .unset] [(.ref b13)]))
      obtain ⟨cq25, kq25, q25a, q25b, q25c⟩ := isOf hZ ef1 FPxf1.1.1
      obtain ⟨_, _, ⟨T25, L25, k25, n25⟩, -, X25, ⟨Lc25, hQ25, l25, y25, z25⟩, st25⟩ := Xf1.virtualBack hx (y := (⟨"com/example/relyguard/relyguard/Footprint", "endsRun", "()V"⟩ : MethodName)) (z := (⟨"com/example/relyguard/relyguard/Footprint", "endsRun", "()V"⟩ : MethodName)) hown (mvT hZ (hw _ (List.mem_of_getElem? (i := 92) rfl))) (mvT hZ (hw _ (List.mem_of_getElem? (i := 93) rfl))) (notFace_of_selects (args := #[]) (mvT hZ (hw _ (List.mem_of_getElem? (i := 95) rfl)))) (mvT hZ (hw _ (List.mem_of_getElem? (i := 95) rfl))) (mvT hZ (hw _ (List.mem_of_getElem? (i := 94) rfl))) (by decide) (backOf (W := 0) (rm_endsRun l Z a0 hw [] b13 ca_x wa_x kc_x kw_x (Int32.ofNat ta) c0 c1 w0 w1 B12 B13 0 hf1 n0 Zf1 FPxf1 gx_x) hZ (hw _ (List.mem_of_getElem? (i := 96) rfl)) (hw _ (List.mem_of_getElem? (i := 9) rfl)) (by decide) (by decide)) q25a q25c (g := (mkF m 266 #[.val (.int x0), .val (.int x1), .val (.int x2), .val (.int x3), .val (.int x4), .val (.int x5), .val (.int (Int32.ofNat ta)), .val (.int (Int32.ofNat ub)), .val (.int B8), .val (.int B9), .val (.int B10), .val (.int B11), .val (.int B12), .val (.int B13), .val (.int B14), .val (.int B15), .val (.int B16), .val (.int B17), .val (.int x0), .val (.int x1), .val (.int P20), .val (.int P21), .val (.int (Int32.ofNat kA)), .val (.int (Int32.ofNat kB)), .val (.ref b13), .val (.ref b15), .unset] [(.ref b13)])) rfl (by rw [hml]; rfl) (Steps.refl _) (argsL := []) (rest := []) (lenOf pd_2 rfl) rfl (by show 2 * 0 + _ ≤ _; exact Nat.le_of_eq rfl) (hb hby at_266) (fun _ _ => ⟨rfl, ef1, (by decide : 10 + 0 ≤ _), (by decide : 34 + 0 ≤ _)⟩)
      dsimp only [Pt.U, Pt.locs, Pt.cells, Pt.slots] at X25 l25 y25 z25 st25 hQ25
      subst l25 y25 z25
      generalize e25 : T25.heap = h25 at hQ25
      obtain ⟨rfl, N25q, Z25, K25, FP25⟩ := hQ25
      have N25 := Fr.app Nf1 N25q
      refine own_go (fun _ kk_ => st25.trans kk_) ?_
      have FO25 := own_FPkeep FPyf1 K25 (ninS (Ne.symm nxy0) nin0) (ninS (Ne.symm nxy1) nin0) (ninS (Ne.symm nxy2) nin0)
      exact Jf2 _ _ _  (X25.more (by decide) (by decide)) N25 e25 Z25  (by rw [hB14.resolve_left hc261]; exact FP25) FO25
  intro Tf2 hf2 lof2 Xf2 Nf2 ef2 Zf2 FPxf2 FPyf2
  show own_G p e below s _ _ _ (Tf2.setTop (mkF m 269 #[.val (.int x0), .val (.int x1), .val (.int x2), .val (.int x3), .val (.int x4), .val (.int x5), .val (.int (Int32.ofNat ta)), .val (.int (Int32.ofNat ub)), .val (.int B8), .val (.int B9), .val (.int B10), .val (.int B11), .val (.int B12), .val (.int B13), .val (.int B14), .val (.int B15), .val (.int B16), .val (.int B17), .val (.int x0), .val (.int x1), .val (.int P20), .val (.int P21), .val (.int (Int32.ofNat kA)), .val (.int (Int32.ofNat kB)), .val (.ref b13), .val (.ref b15), .unset] []))
  suffices Jf3 : ∀ (Tf3 : State) (hf3 : Heap) (lof3 : List Loc), Stand p l e room_1 s m #[(.int x0), (.int x1), (.int x2), (.int x3), (.int x4), (.int x5)] below meth c Tf3 lof3 10 34 → Fr n0 lof3 → Tf3.heap = hf3 → n0 ≤ hf3.size → own_FP Z hf3 b13 ca_x wa_x kc_x kw_x (Int32.ofNat ta) c0 c1 w0 w1 B12 B13 B14 → own_FP Z hf3 b15 ca_y wa_y kc_y kw_y (Int32.ofNat ub) d0 d1 v0 v1 B15 0 0 → own_G p e below s (Q_rm0 Z x0 x1 x2 x3 x4 x5 h0 n0) 32 192 (Tf3.setTop (mkF m 279 #[.val (.int x0), .val (.int x1), .val (.int x2), .val (.int x3), .val (.int x4), .val (.int x5), .val (.int (Int32.ofNat ta)), .val (.int (Int32.ofNat ub)), .val (.int B8), .val (.int B9), .val (.int B10), .val (.int B11), .val (.int B12), .val (.int B13), .val (.int B14), .val (.int B15), .val (.int B16), .val (.int B17), .val (.int x0), .val (.int x1), .val (.int P20), .val (.int P21), .val (.int (Int32.ofNat kA)), .val (.int (Int32.ofNat kB)), .val (.ref b13), .val (.ref b15), .unset] [])) by
    show own_G p e below s _ _ _ (Tf2.setTop (mkF m 269 #[.val (.int x0), .val (.int x1), .val (.int x2), .val (.int x3), .val (.int x4), .val (.int x5), .val (.int (Int32.ofNat ta)), .val (.int (Int32.ofNat ub)), .val (.int B8), .val (.int B9), .val (.int B10), .val (.int B11), .val (.int B12), .val (.int B13), .val (.int B14), .val (.int B15), .val (.int B16), .val (.int B17), .val (.int x0), .val (.int x1), .val (.int P20), .val (.int P21), .val (.int (Int32.ofNat kA)), .val (.int (Int32.ofNat kB)), .val (.ref b13), .val (.ref b15), .unset] []))
    refine own_go (fun _ kk_ => XS.iload Xf2.here hx rfl (hb hby at_269) rfl kk_) ?_
    show own_G p e below s _ _ _ (Tf2.setTop (mkF m 271 #[.val (.int x0), .val (.int x1), .val (.int x2), .val (.int x3), .val (.int x4), .val (.int x5), .val (.int (Int32.ofNat ta)), .val (.int (Int32.ofNat ub)), .val (.int B8), .val (.int B9), .val (.int B10), .val (.int B11), .val (.int B12), .val (.int B13), .val (.int B14), .val (.int B15), .val (.int B16), .val (.int B17), .val (.int x0), .val (.int x1), .val (.int P20), .val (.int P21), .val (.int (Int32.ofNat kA)), .val (.int (Int32.ofNat kB)), .val (.ref b13), .val (.ref b15), .unset] [(.int B15)]))
    refine own_if_eq Xf2 hx (pc := 271) (pc' := 279) (hb hby at_271) (by decide) (by decide) (fun hc271 => ?_) (fun hc271 => ?_)
    · exact Jf3 _ _ _  (Xf2.more (by decide) (by decide)) Nf2 ef2 Zf2  FPxf2 (by rw [hc271]; exact FPyf2)
    · show own_G p e below s _ _ _ (Tf2.setTop (mkF m 274 #[.val (.int x0), .val (.int x1), .val (.int x2), .val (.int x3), .val (.int x4), .val (.int x5), .val (.int (Int32.ofNat ta)), .val (.int (Int32.ofNat ub)), .val (.int B8), .val (.int B9), .val (.int B10), .val (.int B11), .val (.int B12), .val (.int B13), .val (.int B14), .val (.int B15), .val (.int B16), .val (.int B17), .val (.int x0), .val (.int x1), .val (.int P20), .val (.int P21), .val (.int (Int32.ofNat kA)), .val (.int (Int32.ofNat kB)), .val (.ref b13), .val (.ref b15), .unset] []))
      refine own_go (fun _ kk_ => XS.aload Xf2.here hx rfl (hb hby at_274) rfl rfl kk_) ?_
      show own_G p e below s _ _ _ (Tf2.setTop (mkF m 276 #[.val (.int x0), .val (.int x1), .val (.int x2), .val (.int x3), .val (.int x4), .val (.int x5), .val (.int (Int32.ofNat ta)), .val (.int (Int32.ofNat ub)), .val (.int B8), .val (.int B9), .val (.int B10), .val (.int B11), .val (.int B12), .val (.int B13), .val (.int B14), .val (.int B15), .val (.int B16), .val (.int B17), .val (.int x0), .val (.int x1), .val (.int P20), .val (.int P21), .val (.int (Int32.ofNat kA)), .val (.int (Int32.ofNat kB)), .val (.ref b13), .val (.ref b15), .unset] [(.ref b15)]))
      obtain ⟨cq26, kq26, q26a, q26b, q26c⟩ := isOf hZ ef2 FPyf2.1.1
      obtain ⟨_, _, ⟨T26, L26, k26, n26⟩, -, X26, ⟨Lc26, hQ26, l26, y26, z26⟩, st26⟩ := Xf2.virtualBack hx (y := (⟨"com/example/relyguard/relyguard/Footprint", "callBegan", "()V"⟩ : MethodName)) (z := (⟨"com/example/relyguard/relyguard/Footprint", "callBegan", "()V"⟩ : MethodName)) hown (mvT hZ (hw _ (List.mem_of_getElem? (i := 87) rfl))) (mvT hZ (hw _ (List.mem_of_getElem? (i := 88) rfl))) (notFace_of_selects (args := #[]) (mvT hZ (hw _ (List.mem_of_getElem? (i := 90) rfl)))) (mvT hZ (hw _ (List.mem_of_getElem? (i := 90) rfl))) (mvT hZ (hw _ (List.mem_of_getElem? (i := 89) rfl))) (by decide) (backOf (W := 0) (rm_callBegan l Z a0 hw [] b15 ca_y wa_y kc_y kw_y (Int32.ofNat ub) d0 d1 v0 v1 0 0 0 hf2 n0 Zf2 FPyf2 gx_y) hZ (hw _ (List.mem_of_getElem? (i := 91) rfl)) (hw _ (List.mem_of_getElem? (i := 9) rfl)) (by decide) (by decide)) q26a q26c (g := (mkF m 276 #[.val (.int x0), .val (.int x1), .val (.int x2), .val (.int x3), .val (.int x4), .val (.int x5), .val (.int (Int32.ofNat ta)), .val (.int (Int32.ofNat ub)), .val (.int B8), .val (.int B9), .val (.int B10), .val (.int B11), .val (.int B12), .val (.int B13), .val (.int B14), .val (.int B15), .val (.int B16), .val (.int B17), .val (.int x0), .val (.int x1), .val (.int P20), .val (.int P21), .val (.int (Int32.ofNat kA)), .val (.int (Int32.ofNat kB)), .val (.ref b13), .val (.ref b15), .unset] [(.ref b15)])) rfl (by rw [hml]; rfl) (Steps.refl _) (argsL := []) (rest := []) (lenOf pd_2 rfl) rfl (by show 2 * 0 + _ ≤ _; exact Nat.le_of_eq rfl) (hb hby at_276) (fun _ _ => ⟨rfl, ef2, (by decide : 10 + 0 ≤ _), (by decide : 34 + 0 ≤ _)⟩)
      dsimp only [Pt.U, Pt.locs, Pt.cells, Pt.slots] at X26 l26 y26 z26 st26 hQ26
      subst l26 y26 z26
      generalize e26 : T26.heap = h26 at hQ26
      obtain ⟨rfl, N26q, Z26, K26, FP26⟩ := hQ26
      have N26 := Fr.app Nf2 N26q
      refine own_go (fun _ kk_ => st26.trans kk_) ?_
      have FO26 := own_FPkeep FPxf2 K26 (ninS nxy0 nin0) (ninS nxy3 nin0) (ninS nxy6 nin0)
      exact Jf3 _ _ _  (X26.more (by decide) (by decide)) N26 e26 Z26  FO26 (by rw [hB15.resolve_left hc271]; exact FP26)
  intro Tf3 hf3 lof3 Xf3 Nf3 ef3 Zf3 FPxf3 FPyf3
  show own_G p e below s _ _ _ (Tf3.setTop (mkF m 279 #[.val (.int x0), .val (.int x1), .val (.int x2), .val (.int x3), .val (.int x4), .val (.int x5), .val (.int (Int32.ofNat ta)), .val (.int (Int32.ofNat ub)), .val (.int B8), .val (.int B9), .val (.int B10), .val (.int B11), .val (.int B12), .val (.int B13), .val (.int B14), .val (.int B15), .val (.int B16), .val (.int B17), .val (.int x0), .val (.int x1), .val (.int P20), .val (.int P21), .val (.int (Int32.ofNat kA)), .val (.int (Int32.ofNat kB)), .val (.ref b13), .val (.ref b15), .unset] []))
  suffices Jf4 : ∀ (Tf4 : State) (hf4 : Heap) (lof4 : List Loc), Stand p l e room_1 s m #[(.int x0), (.int x1), (.int x2), (.int x3), (.int x4), (.int x5)] below meth c Tf4 lof4 10 34 → Fr n0 lof4 → Tf4.heap = hf4 → n0 ≤ hf4.size → own_FP Z hf4 b13 ca_x wa_x kc_x kw_x (Int32.ofNat ta) c0 c1 w0 w1 B12 B13 B14 → own_FP Z hf4 b15 ca_y wa_y kc_y kw_y (Int32.ofNat ub) d0 d1 v0 v1 B15 B16 0 → own_G p e below s (Q_rm0 Z x0 x1 x2 x3 x4 x5 h0 n0) 32 192 (Tf4.setTop (mkF m 289 #[.val (.int x0), .val (.int x1), .val (.int x2), .val (.int x3), .val (.int x4), .val (.int x5), .val (.int (Int32.ofNat ta)), .val (.int (Int32.ofNat ub)), .val (.int B8), .val (.int B9), .val (.int B10), .val (.int B11), .val (.int B12), .val (.int B13), .val (.int B14), .val (.int B15), .val (.int B16), .val (.int B17), .val (.int x0), .val (.int x1), .val (.int P20), .val (.int P21), .val (.int (Int32.ofNat kA)), .val (.int (Int32.ofNat kB)), .val (.ref b13), .val (.ref b15), .unset] [])) by
    show own_G p e below s _ _ _ (Tf3.setTop (mkF m 279 #[.val (.int x0), .val (.int x1), .val (.int x2), .val (.int x3), .val (.int x4), .val (.int x5), .val (.int (Int32.ofNat ta)), .val (.int (Int32.ofNat ub)), .val (.int B8), .val (.int B9), .val (.int B10), .val (.int B11), .val (.int B12), .val (.int B13), .val (.int B14), .val (.int B15), .val (.int B16), .val (.int B17), .val (.int x0), .val (.int x1), .val (.int P20), .val (.int P21), .val (.int (Int32.ofNat kA)), .val (.int (Int32.ofNat kB)), .val (.ref b13), .val (.ref b15), .unset] []))
    refine own_go (fun _ kk_ => XS.iload Xf3.here hx rfl (hb hby at_279) rfl kk_) ?_
    show own_G p e below s _ _ _ (Tf3.setTop (mkF m 281 #[.val (.int x0), .val (.int x1), .val (.int x2), .val (.int x3), .val (.int x4), .val (.int x5), .val (.int (Int32.ofNat ta)), .val (.int (Int32.ofNat ub)), .val (.int B8), .val (.int B9), .val (.int B10), .val (.int B11), .val (.int B12), .val (.int B13), .val (.int B14), .val (.int B15), .val (.int B16), .val (.int B17), .val (.int x0), .val (.int x1), .val (.int P20), .val (.int P21), .val (.int (Int32.ofNat kA)), .val (.int (Int32.ofNat kB)), .val (.ref b13), .val (.ref b15), .unset] [(.int B16)]))
    refine own_if_eq Xf3 hx (pc := 281) (pc' := 289) (hb hby at_281) (by decide) (by decide) (fun hc281 => ?_) (fun hc281 => ?_)
    · exact Jf4 _ _ _  (Xf3.more (by decide) (by decide)) Nf3 ef3 Zf3  FPxf3 (by rw [hc281]; exact FPyf3)
    · show own_G p e below s _ _ _ (Tf3.setTop (mkF m 284 #[.val (.int x0), .val (.int x1), .val (.int x2), .val (.int x3), .val (.int x4), .val (.int x5), .val (.int (Int32.ofNat ta)), .val (.int (Int32.ofNat ub)), .val (.int B8), .val (.int B9), .val (.int B10), .val (.int B11), .val (.int B12), .val (.int B13), .val (.int B14), .val (.int B15), .val (.int B16), .val (.int B17), .val (.int x0), .val (.int x1), .val (.int P20), .val (.int P21), .val (.int (Int32.ofNat kA)), .val (.int (Int32.ofNat kB)), .val (.ref b13), .val (.ref b15), .unset] []))
      refine own_go (fun _ kk_ => XS.aload Xf3.here hx rfl (hb hby at_284) rfl rfl kk_) ?_
      show own_G p e below s _ _ _ (Tf3.setTop (mkF m 286 #[.val (.int x0), .val (.int x1), .val (.int x2), .val (.int x3), .val (.int x4), .val (.int x5), .val (.int (Int32.ofNat ta)), .val (.int (Int32.ofNat ub)), .val (.int B8), .val (.int B9), .val (.int B10), .val (.int B11), .val (.int B12), .val (.int B13), .val (.int B14), .val (.int B15), .val (.int B16), .val (.int B17), .val (.int x0), .val (.int x1), .val (.int P20), .val (.int P21), .val (.int (Int32.ofNat kA)), .val (.int (Int32.ofNat kB)), .val (.ref b13), .val (.ref b15), .unset] [(.ref b15)]))
      obtain ⟨cq27, kq27, q27a, q27b, q27c⟩ := isOf hZ ef3 FPyf3.1.1
      obtain ⟨_, _, ⟨T27, L27, k27, n27⟩, -, X27, ⟨Lc27, hQ27, l27, y27, z27⟩, st27⟩ := Xf3.virtualBack hx (y := (⟨"com/example/relyguard/relyguard/Footprint", "callReturned", "()V"⟩ : MethodName)) (z := (⟨"com/example/relyguard/relyguard/Footprint", "callReturned", "()V"⟩ : MethodName)) hown (mvT hZ (hw _ (List.mem_of_getElem? (i := 97) rfl))) (mvT hZ (hw _ (List.mem_of_getElem? (i := 98) rfl))) (notFace_of_selects (args := #[]) (mvT hZ (hw _ (List.mem_of_getElem? (i := 100) rfl)))) (mvT hZ (hw _ (List.mem_of_getElem? (i := 100) rfl))) (mvT hZ (hw _ (List.mem_of_getElem? (i := 99) rfl))) (by decide) (backOf (W := 0) (rm_callReturned l Z a0 hw [] b15 ca_y wa_y kc_y kw_y (Int32.ofNat ub) d0 d1 v0 v1 B15 0 0 hf3 n0 Zf3 FPyf3 gx_y) hZ (hw _ (List.mem_of_getElem? (i := 101) rfl)) (hw _ (List.mem_of_getElem? (i := 9) rfl)) (by decide) (by decide)) q27a q27c (g := (mkF m 286 #[.val (.int x0), .val (.int x1), .val (.int x2), .val (.int x3), .val (.int x4), .val (.int x5), .val (.int (Int32.ofNat ta)), .val (.int (Int32.ofNat ub)), .val (.int B8), .val (.int B9), .val (.int B10), .val (.int B11), .val (.int B12), .val (.int B13), .val (.int B14), .val (.int B15), .val (.int B16), .val (.int B17), .val (.int x0), .val (.int x1), .val (.int P20), .val (.int P21), .val (.int (Int32.ofNat kA)), .val (.int (Int32.ofNat kB)), .val (.ref b13), .val (.ref b15), .unset] [(.ref b15)])) rfl (by rw [hml]; rfl) (Steps.refl _) (argsL := []) (rest := []) (lenOf pd_2 rfl) rfl (by show 2 * 0 + _ ≤ _; exact Nat.le_of_eq rfl) (hb hby at_286) (fun _ _ => ⟨rfl, ef3, (by decide : 10 + 0 ≤ _), (by decide : 34 + 0 ≤ _)⟩)
      dsimp only [Pt.U, Pt.locs, Pt.cells, Pt.slots] at X27 l27 y27 z27 st27 hQ27
      subst l27 y27 z27
      generalize e27 : T27.heap = h27 at hQ27
      obtain ⟨rfl, N27q, Z27, K27, FP27⟩ := hQ27
      have N27 := Fr.app Nf3 N27q
      refine own_go (fun _ kk_ => st27.trans kk_) ?_
      have FO27 := own_FPkeep FPxf3 K27 (ninS nxy0 nin0) (ninS nxy3 nin0) (ninS nxy6 nin0)
      exact Jf4 _ _ _  (X27.more (by decide) (by decide)) N27 e27 Z27  FO27 (by rw [hB16.resolve_left hc281]; exact FP27)
  intro Tf4 hf4 lof4 Xf4 Nf4 ef4 Zf4 FPxf4 FPyf4
  show own_G p e below s _ _ _ (Tf4.setTop (mkF m 289 #[.val (.int x0), .val (.int x1), .val (.int x2), .val (.int x3), .val (.int x4), .val (.int x5), .val (.int (Int32.ofNat ta)), .val (.int (Int32.ofNat ub)), .val (.int B8), .val (.int B9), .val (.int B10), .val (.int B11), .val (.int B12), .val (.int B13), .val (.int B14), .val (.int B15), .val (.int B16), .val (.int B17), .val (.int x0), .val (.int x1), .val (.int P20), .val (.int P21), .val (.int (Int32.ofNat kA)), .val (.int (Int32.ofNat kB)), .val (.ref b13), .val (.ref b15), .unset] []))
  suffices Jf5 : ∀ (Tf5 : State) (hf5 : Heap) (lof5 : List Loc), Stand p l e room_1 s m #[(.int x0), (.int x1), (.int x2), (.int x3), (.int x4), (.int x5)] below meth c Tf5 lof5 10 34 → Fr n0 lof5 → Tf5.heap = hf5 → n0 ≤ hf5.size → own_FP Z hf5 b13 ca_x wa_x kc_x kw_x (Int32.ofNat ta) c0 c1 w0 w1 B12 B13 B14 → own_FP Z hf5 b15 ca_y wa_y kc_y kw_y (Int32.ofNat ub) d0 d1 v0 v1 B15 B16 B17 → own_G p e below s (Q_rm0 Z x0 x1 x2 x3 x4 x5 h0 n0) 32 192 (Tf5.setTop (mkF m 299 #[.val (.int x0), .val (.int x1), .val (.int x2), .val (.int x3), .val (.int x4), .val (.int x5), .val (.int (Int32.ofNat ta)), .val (.int (Int32.ofNat ub)), .val (.int B8), .val (.int B9), .val (.int B10), .val (.int B11), .val (.int B12), .val (.int B13), .val (.int B14), .val (.int B15), .val (.int B16), .val (.int B17), .val (.int x0), .val (.int x1), .val (.int P20), .val (.int P21), .val (.int (Int32.ofNat kA)), .val (.int (Int32.ofNat kB)), .val (.ref b13), .val (.ref b15), .unset] [])) by
    show own_G p e below s _ _ _ (Tf4.setTop (mkF m 289 #[.val (.int x0), .val (.int x1), .val (.int x2), .val (.int x3), .val (.int x4), .val (.int x5), .val (.int (Int32.ofNat ta)), .val (.int (Int32.ofNat ub)), .val (.int B8), .val (.int B9), .val (.int B10), .val (.int B11), .val (.int B12), .val (.int B13), .val (.int B14), .val (.int B15), .val (.int B16), .val (.int B17), .val (.int x0), .val (.int x1), .val (.int P20), .val (.int P21), .val (.int (Int32.ofNat kA)), .val (.int (Int32.ofNat kB)), .val (.ref b13), .val (.ref b15), .unset] []))
    refine own_go (fun _ kk_ => XS.iload Xf4.here hx rfl (hb hby at_289) rfl kk_) ?_
    show own_G p e below s _ _ _ (Tf4.setTop (mkF m 291 #[.val (.int x0), .val (.int x1), .val (.int x2), .val (.int x3), .val (.int x4), .val (.int x5), .val (.int (Int32.ofNat ta)), .val (.int (Int32.ofNat ub)), .val (.int B8), .val (.int B9), .val (.int B10), .val (.int B11), .val (.int B12), .val (.int B13), .val (.int B14), .val (.int B15), .val (.int B16), .val (.int B17), .val (.int x0), .val (.int x1), .val (.int P20), .val (.int P21), .val (.int (Int32.ofNat kA)), .val (.int (Int32.ofNat kB)), .val (.ref b13), .val (.ref b15), .unset] [(.int B17)]))
    refine own_if_eq Xf4 hx (pc := 291) (pc' := 299) (hb hby at_291) (by decide) (by decide) (fun hc291 => ?_) (fun hc291 => ?_)
    · exact Jf5 _ _ _  (Xf4.more (by decide) (by decide)) Nf4 ef4 Zf4  FPxf4 (by rw [hc291]; exact FPyf4)
    · show own_G p e below s _ _ _ (Tf4.setTop (mkF m 294 #[.val (.int x0), .val (.int x1), .val (.int x2), .val (.int x3), .val (.int x4), .val (.int x5), .val (.int (Int32.ofNat ta)), .val (.int (Int32.ofNat ub)), .val (.int B8), .val (.int B9), .val (.int B10), .val (.int B11), .val (.int B12), .val (.int B13), .val (.int B14), .val (.int B15), .val (.int B16), .val (.int B17), .val (.int x0), .val (.int x1), .val (.int P20), .val (.int P21), .val (.int (Int32.ofNat kA)), .val (.int (Int32.ofNat kB)), .val (.ref b13), .val (.ref b15), .unset] []))
      refine own_go (fun _ kk_ => XS.aload Xf4.here hx rfl (hb hby at_294) rfl rfl kk_) ?_
      show own_G p e below s _ _ _ (Tf4.setTop (mkF m 296 #[.val (.int x0), .val (.int x1), .val (.int x2), .val (.int x3), .val (.int x4), .val (.int x5), .val (.int (Int32.ofNat ta)), .val (.int (Int32.ofNat ub)), .val (.int B8), .val (.int B9), .val (.int B10), .val (.int B11), .val (.int B12), .val (.int B13), .val (.int B14), .val (.int B15), .val (.int B16), .val (.int B17), .val (.int x0), .val (.int x1), .val (.int P20), .val (.int P21), .val (.int (Int32.ofNat kA)), .val (.int (Int32.ofNat kB)), .val (.ref b13), .val (.ref b15), .unset] [(.ref b15)]))
      obtain ⟨cq28, kq28, q28a, q28b, q28c⟩ := isOf hZ ef4 FPyf4.1.1
      obtain ⟨_, _, ⟨T28, L28, k28, n28⟩, -, X28, ⟨Lc28, hQ28, l28, y28, z28⟩, st28⟩ := Xf4.virtualBack hx (y := (⟨"com/example/relyguard/relyguard/Footprint", "endsRun", "()V"⟩ : MethodName)) (z := (⟨"com/example/relyguard/relyguard/Footprint", "endsRun", "()V"⟩ : MethodName)) hown (mvT hZ (hw _ (List.mem_of_getElem? (i := 92) rfl))) (mvT hZ (hw _ (List.mem_of_getElem? (i := 93) rfl))) (notFace_of_selects (args := #[]) (mvT hZ (hw _ (List.mem_of_getElem? (i := 95) rfl)))) (mvT hZ (hw _ (List.mem_of_getElem? (i := 95) rfl))) (mvT hZ (hw _ (List.mem_of_getElem? (i := 94) rfl))) (by decide) (backOf (W := 0) (rm_endsRun l Z a0 hw [] b15 ca_y wa_y kc_y kw_y (Int32.ofNat ub) d0 d1 v0 v1 B15 B16 0 hf4 n0 Zf4 FPyf4 gx_y) hZ (hw _ (List.mem_of_getElem? (i := 96) rfl)) (hw _ (List.mem_of_getElem? (i := 9) rfl)) (by decide) (by decide)) q28a q28c (g := (mkF m 296 #[.val (.int x0), .val (.int x1), .val (.int x2), .val (.int x3), .val (.int x4), .val (.int x5), .val (.int (Int32.ofNat ta)), .val (.int (Int32.ofNat ub)), .val (.int B8), .val (.int B9), .val (.int B10), .val (.int B11), .val (.int B12), .val (.int B13), .val (.int B14), .val (.int B15), .val (.int B16), .val (.int B17), .val (.int x0), .val (.int x1), .val (.int P20), .val (.int P21), .val (.int (Int32.ofNat kA)), .val (.int (Int32.ofNat kB)), .val (.ref b13), .val (.ref b15), .unset] [(.ref b15)])) rfl (by rw [hml]; rfl) (Steps.refl _) (argsL := []) (rest := []) (lenOf pd_2 rfl) rfl (by show 2 * 0 + _ ≤ _; exact Nat.le_of_eq rfl) (hb hby at_296) (fun _ _ => ⟨rfl, ef4, (by decide : 10 + 0 ≤ _), (by decide : 34 + 0 ≤ _)⟩)
      dsimp only [Pt.U, Pt.locs, Pt.cells, Pt.slots] at X28 l28 y28 z28 st28 hQ28
      subst l28 y28 z28
      generalize e28 : T28.heap = h28 at hQ28
      obtain ⟨rfl, N28q, Z28, K28, FP28⟩ := hQ28
      have N28 := Fr.app Nf4 N28q
      refine own_go (fun _ kk_ => st28.trans kk_) ?_
      have FO28 := own_FPkeep FPxf4 K28 (ninS nxy0 nin0) (ninS nxy3 nin0) (ninS nxy6 nin0)
      exact Jf5 _ _ _  (X28.more (by decide) (by decide)) N28 e28 Z28  FO28 (by rw [hB17.resolve_left hc291]; exact FP28)
  intro Tf5 hf5 lof5 Xf5 Nf5 ef5 Zf5 FPxf5 FPyf5
  show own_G p e below s _ _ _ (Tf5.setTop (mkF m 299 #[.val (.int x0), .val (.int x1), .val (.int x2), .val (.int x3), .val (.int x4), .val (.int x5), .val (.int (Int32.ofNat ta)), .val (.int (Int32.ofNat ub)), .val (.int B8), .val (.int B9), .val (.int B10), .val (.int B11), .val (.int B12), .val (.int B13), .val (.int B14), .val (.int B15), .val (.int B16), .val (.int B17), .val (.int x0), .val (.int x1), .val (.int P20), .val (.int P21), .val (.int (Int32.ofNat kA)), .val (.int (Int32.ofNat kB)), .val (.ref b13), .val (.ref b15), .unset] []))
  have J433 : ∀ (T1 : State) (lo1 : List Loc), Stand p l e room_1 s m #[(.int x0), (.int x1), (.int x2), (.int x3), (.int x4), (.int x5)] below meth c T1 lo1 10 34 → Fr n0 lo1 → T1.heap = hf5 → (own_D B14 B17 B12 B13 B15 B16 (own_C (Int32.ofNat ta) (Int32.ofNat ub) c0 c1 w0 w1 d0 d1 v0 v1)) → own_G p e below s (Q_rm0 Z x0 x1 x2 x3 x4 x5 h0 n0) 32 192 (T1.setTop (mkF m 433 #[.val (.int x0), .val (.int x1), .val (.int x2), .val (.int x3), .val (.int x4), .val (.int x5), .val (.int (Int32.ofNat ta)), .val (.int (Int32.ofNat ub)), .val (.int B8), .val (.int B9), .val (.int B10), .val (.int B11), .val (.int B12), .val (.int B13), .val (.int B14), .val (.int B15), .val (.int B16), .val (.int B17), .val (.int x0), .val (.int x1), .val (.int P20), .val (.int P21), .val (.int (Int32.ofNat kA)), .val (.int (Int32.ofNat kB)), .val (.ref b13), .val (.ref b15), .unset] [])) := by
    intro T1 lo1 X1 N1 e1 hD
    show own_G p e below s _ _ _ (T1.setTop (mkF m 433 #[.val (.int x0), .val (.int x1), .val (.int x2), .val (.int x3), .val (.int x4), .val (.int x5), .val (.int (Int32.ofNat ta)), .val (.int (Int32.ofNat ub)), .val (.int B8), .val (.int B9), .val (.int B10), .val (.int B11), .val (.int B12), .val (.int B13), .val (.int B14), .val (.int B15), .val (.int B16), .val (.int B17), .val (.int x0), .val (.int x1), .val (.int P20), .val (.int P21), .val (.int (Int32.ofNat kA)), .val (.int (Int32.ofNat kB)), .val (.ref b13), .val (.ref b15), .unset] []))
    refine own_go (fun _ kk_ => XS.iconst X1.here hx rfl (hb hby at_433) kk_) ?_
    show own_G p e below s _ _ _ (T1.setTop (mkF m 434 #[.val (.int x0), .val (.int x1), .val (.int x2), .val (.int x3), .val (.int x4), .val (.int x5), .val (.int (Int32.ofNat ta)), .val (.int (Int32.ofNat ub)), .val (.int B8), .val (.int B9), .val (.int B10), .val (.int B11), .val (.int B12), .val (.int B13), .val (.int B14), .val (.int B15), .val (.int B16), .val (.int B17), .val (.int x0), .val (.int x1), .val (.int P20), .val (.int P21), .val (.int (Int32.ofNat kA)), .val (.int (Int32.ofNat kB)), .val (.ref b13), .val (.ref b15), .unset] [(.int (1 : Int32))]))
    refine own_go (fun _ kk_ => XS.goto X1.here hx rfl (pc0 := 434) (pc' := 438) rfl (hb hby at_434) (by decide) (by decide) kk_) ?_
    show own_G p e below s _ _ _ (T1.setTop (mkF m 438 #[.val (.int x0), .val (.int x1), .val (.int x2), .val (.int x3), .val (.int x4), .val (.int x5), .val (.int (Int32.ofNat ta)), .val (.int (Int32.ofNat ub)), .val (.int B8), .val (.int B9), .val (.int B10), .val (.int B11), .val (.int B12), .val (.int B13), .val (.int B14), .val (.int B15), .val (.int B16), .val (.int B17), .val (.int x0), .val (.int x1), .val (.int P20), .val (.int P21), .val (.int (Int32.ofNat kA)), .val (.int (Int32.ofNat kB)), .val (.ref b13), .val (.ref b15), .unset] [(.int (1 : Int32))]))
    refine own_go (fun _ kk_ => XS.istore X1.here hx rfl (hb hby at_438) rfl (l' := #[.val (.int x0), .val (.int x1), .val (.int x2), .val (.int x3), .val (.int x4), .val (.int x5), .val (.int (Int32.ofNat ta)), .val (.int (Int32.ofNat ub)), .val (.int B8), .val (.int B9), .val (.int B10), .val (.int B11), .val (.int B12), .val (.int B13), .val (.int B14), .val (.int B15), .val (.int B16), .val (.int B17), .val (.int x0), .val (.int x1), .val (.int P20), .val (.int P21), .val (.int (Int32.ofNat kA)), .val (.int (Int32.ofNat kB)), .val (.ref b13), .val (.ref b15), .val (.int (1 : Int32))]) rfl kk_) ?_
    show own_G p e below s _ _ _ (T1.setTop (mkF m 440 #[.val (.int x0), .val (.int x1), .val (.int x2), .val (.int x3), .val (.int x4), .val (.int x5), .val (.int (Int32.ofNat ta)), .val (.int (Int32.ofNat ub)), .val (.int B8), .val (.int B9), .val (.int B10), .val (.int B11), .val (.int B12), .val (.int B13), .val (.int B14), .val (.int B15), .val (.int B16), .val (.int B17), .val (.int x0), .val (.int x1), .val (.int P20), .val (.int P21), .val (.int (Int32.ofNat kA)), .val (.int (Int32.ofNat kB)), .val (.ref b13), .val (.ref b15), .val (.int (1 : Int32))] []))
    refine own_go (fun _ kk_ => XS.aload X1.here hx rfl (hb hby at_440) rfl rfl kk_) ?_
    show own_G p e below s _ _ _ (T1.setTop (mkF m 442 #[.val (.int x0), .val (.int x1), .val (.int x2), .val (.int x3), .val (.int x4), .val (.int x5), .val (.int (Int32.ofNat ta)), .val (.int (Int32.ofNat ub)), .val (.int B8), .val (.int B9), .val (.int B10), .val (.int B11), .val (.int B12), .val (.int B13), .val (.int B14), .val (.int B15), .val (.int B16), .val (.int B17), .val (.int x0), .val (.int x1), .val (.int P20), .val (.int P21), .val (.int (Int32.ofNat kA)), .val (.int (Int32.ofNat kB)), .val (.ref b13), .val (.ref b15), .val (.int (1 : Int32))] [(.ref b13)]))
    refine own_go (fun _ kk_ => XS.aload X1.here hx rfl (hb hby at_442) rfl rfl kk_) ?_
    show own_G p e below s _ _ _ (T1.setTop (mkF m 444 #[.val (.int x0), .val (.int x1), .val (.int x2), .val (.int x3), .val (.int x4), .val (.int x5), .val (.int (Int32.ofNat ta)), .val (.int (Int32.ofNat ub)), .val (.int B8), .val (.int B9), .val (.int B10), .val (.int B11), .val (.int B12), .val (.int B13), .val (.int B14), .val (.int B15), .val (.int B16), .val (.int B17), .val (.int x0), .val (.int x1), .val (.int P20), .val (.int P21), .val (.int (Int32.ofNat kA)), .val (.int (Int32.ofNat kB)), .val (.ref b13), .val (.ref b15), .val (.int (1 : Int32))] [(.ref b15), (.ref b13)]))
    obtain ⟨cq29, kq29, q29a, q29b, q29c⟩ := isOf hZ e1 FPxf5.1.1
    obtain ⟨_, _, ⟨T29, L29, k29, n29⟩, -, X29, ⟨Lc29, hQ29, l29, y29, z29⟩, st29⟩ := X1.virtualBack hx (y := (⟨"com/example/relyguard/relyguard/Footprint", "dependsOn", "(Lcom/example/relyguard/relyguard/Footprint;)Z"⟩ : MethodName)) (z := (⟨"com/example/relyguard/relyguard/Footprint", "dependsOn", "(Lcom/example/relyguard/relyguard/Footprint;)Z"⟩ : MethodName)) hown (mvT hZ (hw _ (List.mem_of_getElem? (i := 69) rfl))) (mvT hZ (hw _ (List.mem_of_getElem? (i := 70) rfl))) (notFace_of_selects (args := #[]) (mvT hZ (hw _ (List.mem_of_getElem? (i := 72) rfl)))) (mvT hZ (hw _ (List.mem_of_getElem? (i := 72) rfl))) (mvT hZ (hw _ (List.mem_of_getElem? (i := 71) rfl))) (by decide) (backOf (W := 0) (rmD l Z a0 hw [] b13 ca_x wa_x b15 ca_y wa_y kc_x kw_x kc_y kw_y c0 c1 w0 w1 B12 B13 B14 d0 d1 v0 v1 B15 B16 B17 ta ub hf5 n0 Zf5 hta hub FPxf5 FPyf5) hZ (hw _ (List.mem_of_getElem? (i := 73) rfl)) (hw _ (List.mem_of_getElem? (i := 9) rfl)) (by decide) (by decide)) q29a q29c (g := (mkF m 444 #[.val (.int x0), .val (.int x1), .val (.int x2), .val (.int x3), .val (.int x4), .val (.int x5), .val (.int (Int32.ofNat ta)), .val (.int (Int32.ofNat ub)), .val (.int B8), .val (.int B9), .val (.int B10), .val (.int B11), .val (.int B12), .val (.int B13), .val (.int B14), .val (.int B15), .val (.int B16), .val (.int B17), .val (.int x0), .val (.int x1), .val (.int P20), .val (.int P21), .val (.int (Int32.ofNat kA)), .val (.int (Int32.ofNat kB)), .val (.ref b13), .val (.ref b15), .val (.int (1 : Int32))] [(.ref b15), (.ref b13)])) rfl (by rw [hml]; rfl) (Steps.refl _) (argsL := [(.ref b15)]) (rest := []) (lenOf pd_6 rfl) rfl (by show 2 * 0 + _ ≤ _; exact Nat.le_of_eq rfl) (hb hby at_444) (fun _ _ => ⟨rfl, e1, (by decide : 10 + 0 ≤ _), (by decide : 34 + 0 ≤ _)⟩)
    dsimp only [Pt.U, Pt.locs, Pt.cells, Pt.slots] at X29 l29 y29 z29 st29 hQ29
    subst l29 y29 z29
    obtain ⟨BD, rfl, N29q, e29, hBD⟩ := hQ29
    have N29 := Fr.app N1 N29q
    refine own_go (fun _ kk_ => st29.trans kk_) ?_
    obtain rfl : BD = 1 := hBD.elim (fun q => q.1) (fun q => absurd hD q.2)
    show own_G p e below s _ _ _ (T29.setTop (mkF m 447 #[.val (.int x0), .val (.int x1), .val (.int x2), .val (.int x3), .val (.int x4), .val (.int x5), .val (.int (Int32.ofNat ta)), .val (.int (Int32.ofNat ub)), .val (.int B8), .val (.int B9), .val (.int B10), .val (.int B11), .val (.int B12), .val (.int B13), .val (.int B14), .val (.int B15), .val (.int B16), .val (.int B17), .val (.int x0), .val (.int x1), .val (.int P20), .val (.int P21), .val (.int (Int32.ofNat kA)), .val (.int (Int32.ofNat kB)), .val (.ref b13), .val (.ref b15), .val (.int (1 : Int32))] [(.int (1 : Int32))]))
    refine own_go (fun _ kk_ => XS.iload X29.here hx rfl (hb hby at_447) rfl kk_) ?_
    show own_G p e below s _ _ _ (T29.setTop (mkF m 449 #[.val (.int x0), .val (.int x1), .val (.int x2), .val (.int x3), .val (.int x4), .val (.int x5), .val (.int (Int32.ofNat ta)), .val (.int (Int32.ofNat ub)), .val (.int B8), .val (.int B9), .val (.int B10), .val (.int B11), .val (.int B12), .val (.int B13), .val (.int B14), .val (.int B15), .val (.int B16), .val (.int B17), .val (.int x0), .val (.int x1), .val (.int P20), .val (.int P21), .val (.int (Int32.ofNat kA)), .val (.int (Int32.ofNat kB)), .val (.ref b13), .val (.ref b15), .val (.int (1 : Int32))] [(.int (1 : Int32)), (.int (1 : Int32))]))
    refine own_ic_neN X29 hx (pc := 449) (hb hby at_449) (by decide) ?_
    show own_G p e below s _ _ _ (T29.setTop (mkF m 452 #[.val (.int x0), .val (.int x1), .val (.int x2), .val (.int x3), .val (.int x4), .val (.int x5), .val (.int (Int32.ofNat ta)), .val (.int (Int32.ofNat ub)), .val (.int B8), .val (.int B9), .val (.int B10), .val (.int B11), .val (.int B12), .val (.int B13), .val (.int B14), .val (.int B15), .val (.int B16), .val (.int B17), .val (.int x0), .val (.int x1), .val (.int P20), .val (.int P21), .val (.int (Int32.ofNat kA)), .val (.int (Int32.ofNat kB)), .val (.ref b13), .val (.ref b15), .val (.int (1 : Int32))] []))
    refine own_go (fun _ kk_ => XS.iconst X29.here hx rfl (hb hby at_452) kk_) ?_
    show own_G p e below s _ _ _ (T29.setTop (mkF m 453 #[.val (.int x0), .val (.int x1), .val (.int x2), .val (.int x3), .val (.int x4), .val (.int x5), .val (.int (Int32.ofNat ta)), .val (.int (Int32.ofNat ub)), .val (.int B8), .val (.int B9), .val (.int B10), .val (.int B11), .val (.int B12), .val (.int B13), .val (.int B14), .val (.int B15), .val (.int B16), .val (.int B17), .val (.int x0), .val (.int x1), .val (.int P20), .val (.int P21), .val (.int (Int32.ofNat kA)), .val (.int (Int32.ofNat kB)), .val (.ref b13), .val (.ref b15), .val (.int (1 : Int32))] [(.int (1 : Int32))]))
    refine own_go (fun _ kk_ => XS.goto X29.here hx rfl (pc0 := 453) (pc' := 457) rfl (hb hby at_453) (by decide) (by decide) kk_) ?_
    show own_G p e below s _ _ _ (T29.setTop (mkF m 457 #[.val (.int x0), .val (.int x1), .val (.int x2), .val (.int x3), .val (.int x4), .val (.int x5), .val (.int (Int32.ofNat ta)), .val (.int (Int32.ofNat ub)), .val (.int B8), .val (.int B9), .val (.int B10), .val (.int B11), .val (.int B12), .val (.int B13), .val (.int B14), .val (.int B15), .val (.int B16), .val (.int B17), .val (.int x0), .val (.int x1), .val (.int P20), .val (.int P21), .val (.int (Int32.ofNat kA)), .val (.int (Int32.ofNat kB)), .val (.ref b13), .val (.ref b15), .val (.int (1 : Int32))] [(.int (1 : Int32))]))
    exact own_retN (t := .boolean) (ht := by simp) X29 hx Bd.returns (BodyLoose.notSynchronized Bd) (hb hby at_457) e29 ⟨rfl, N29⟩ (by decide) (by decide)
  show own_G p e below s _ _ _ (Tf5.setTop (mkF m 299 #[.val (.int x0), .val (.int x1), .val (.int x2), .val (.int x3), .val (.int x4), .val (.int x5), .val (.int (Int32.ofNat ta)), .val (.int (Int32.ofNat ub)), .val (.int B8), .val (.int B9), .val (.int B10), .val (.int B11), .val (.int B12), .val (.int B13), .val (.int B14), .val (.int B15), .val (.int B16), .val (.int B17), .val (.int x0), .val (.int x1), .val (.int P20), .val (.int P21), .val (.int (Int32.ofNat kA)), .val (.int (Int32.ofNat kB)), .val (.ref b13), .val (.ref b15), .unset] []))
  refine own_go (fun _ kk_ => XS.iload Xf5.here hx rfl (hb hby at_299) rfl kk_) ?_
  show own_G p e below s _ _ _ (Tf5.setTop (mkF m 301 #[.val (.int x0), .val (.int x1), .val (.int x2), .val (.int x3), .val (.int x4), .val (.int x5), .val (.int (Int32.ofNat ta)), .val (.int (Int32.ofNat ub)), .val (.int B8), .val (.int B9), .val (.int B10), .val (.int B11), .val (.int B12), .val (.int B13), .val (.int B14), .val (.int B15), .val (.int B16), .val (.int B17), .val (.int x0), .val (.int x1), .val (.int P20), .val (.int P21), .val (.int (Int32.ofNat kA)), .val (.int (Int32.ofNat kB)), .val (.ref b13), .val (.ref b15), .unset] [(.int B14)]))
  refine own_if_ne Xf5 hx (pc := 301) (pc' := 433) (hb hby at_301) (by decide) (by decide) (fun hc301 => ?_) (fun hc301 => ?_)
  · exact J433 _ _ (Xf5.more (by decide) (by decide)) Nf5 ef5 (Or.inl hc301)
  · show own_G p e below s _ _ _ (Tf5.setTop (mkF m 304 #[.val (.int x0), .val (.int x1), .val (.int x2), .val (.int x3), .val (.int x4), .val (.int x5), .val (.int (Int32.ofNat ta)), .val (.int (Int32.ofNat ub)), .val (.int B8), .val (.int B9), .val (.int B10), .val (.int B11), .val (.int B12), .val (.int B13), .val (.int B14), .val (.int B15), .val (.int B16), .val (.int B17), .val (.int x0), .val (.int x1), .val (.int P20), .val (.int P21), .val (.int (Int32.ofNat kA)), .val (.int (Int32.ofNat kB)), .val (.ref b13), .val (.ref b15), .unset] []))
    refine own_go (fun _ kk_ => XS.iload Xf5.here hx rfl (hb hby at_304) rfl kk_) ?_
    show own_G p e below s _ _ _ (Tf5.setTop (mkF m 306 #[.val (.int x0), .val (.int x1), .val (.int x2), .val (.int x3), .val (.int x4), .val (.int x5), .val (.int (Int32.ofNat ta)), .val (.int (Int32.ofNat ub)), .val (.int B8), .val (.int B9), .val (.int B10), .val (.int B11), .val (.int B12), .val (.int B13), .val (.int B14), .val (.int B15), .val (.int B16), .val (.int B17), .val (.int x0), .val (.int x1), .val (.int P20), .val (.int P21), .val (.int (Int32.ofNat kA)), .val (.int (Int32.ofNat kB)), .val (.ref b13), .val (.ref b15), .unset] [(.int B17)]))
    refine own_if_ne Xf5 hx (pc := 306) (pc' := 433) (hb hby at_306) (by decide) (by decide) (fun hc306 => ?_) (fun hc306 => ?_)
    · exact J433 _ _ (Xf5.more (by decide) (by decide)) Nf5 ef5 (Or.inr (Or.inl hc306))
    · show own_G p e below s _ _ _ (Tf5.setTop (mkF m 309 #[.val (.int x0), .val (.int x1), .val (.int x2), .val (.int x3), .val (.int x4), .val (.int x5), .val (.int (Int32.ofNat ta)), .val (.int (Int32.ofNat ub)), .val (.int B8), .val (.int B9), .val (.int B10), .val (.int B11), .val (.int B12), .val (.int B13), .val (.int B14), .val (.int B15), .val (.int B16), .val (.int B17), .val (.int x0), .val (.int x1), .val (.int P20), .val (.int P21), .val (.int (Int32.ofNat kA)), .val (.int (Int32.ofNat kB)), .val (.ref b13), .val (.ref b15), .unset] []))
      suffices J30 : ∀ (T30 : State) (lo30 : List Loc), Stand p l e room_1 s m #[(.int x0), (.int x1), (.int x2), (.int x3), (.int x4), (.int x5)] below meth c T30 lo30 10 34 → Fr n0 lo30 → T30.heap = hf5 → (¬ (¬ B12 = 0 ∧ ¬ B16 = 0)) → own_G p e below s (Q_rm0 Z x0 x1 x2 x3 x4 x5 h0 n0) 32 192 (T30.setTop (mkF m 319 #[.val (.int x0), .val (.int x1), .val (.int x2), .val (.int x3), .val (.int x4), .val (.int x5), .val (.int (Int32.ofNat ta)), .val (.int (Int32.ofNat ub)), .val (.int B8), .val (.int B9), .val (.int B10), .val (.int B11), .val (.int B12), .val (.int B13), .val (.int B14), .val (.int B15), .val (.int B16), .val (.int B17), .val (.int x0), .val (.int x1), .val (.int P20), .val (.int P21), .val (.int (Int32.ofNat kA)), .val (.int (Int32.ofNat kB)), .val (.ref b13), .val (.ref b15), .unset] [])) by
        show own_G p e below s _ _ _ (Tf5.setTop (mkF m 309 #[.val (.int x0), .val (.int x1), .val (.int x2), .val (.int x3), .val (.int x4), .val (.int x5), .val (.int (Int32.ofNat ta)), .val (.int (Int32.ofNat ub)), .val (.int B8), .val (.int B9), .val (.int B10), .val (.int B11), .val (.int B12), .val (.int B13), .val (.int B14), .val (.int B15), .val (.int B16), .val (.int B17), .val (.int x0), .val (.int x1), .val (.int P20), .val (.int P21), .val (.int (Int32.ofNat kA)), .val (.int (Int32.ofNat kB)), .val (.ref b13), .val (.ref b15), .unset] []))
        refine own_go (fun _ kk_ => XS.iload Xf5.here hx rfl (hb hby at_309) rfl kk_) ?_
        show own_G p e below s _ _ _ (Tf5.setTop (mkF m 311 #[.val (.int x0), .val (.int x1), .val (.int x2), .val (.int x3), .val (.int x4), .val (.int x5), .val (.int (Int32.ofNat ta)), .val (.int (Int32.ofNat ub)), .val (.int B8), .val (.int B9), .val (.int B10), .val (.int B11), .val (.int B12), .val (.int B13), .val (.int B14), .val (.int B15), .val (.int B16), .val (.int B17), .val (.int x0), .val (.int x1), .val (.int P20), .val (.int P21), .val (.int (Int32.ofNat kA)), .val (.int (Int32.ofNat kB)), .val (.ref b13), .val (.ref b15), .unset] [(.int B12)]))
        refine own_if_eq Xf5 hx (pc := 311) (pc' := 319) (hb hby at_311) (by decide) (by decide) (fun hc311 => ?_) (fun hc311 => ?_)
        · exact J30 _ _ (Xf5.more (by decide) (by decide)) Nf5 ef5 (fun z => z.1 hc311)
        · show own_G p e below s _ _ _ (Tf5.setTop (mkF m 314 #[.val (.int x0), .val (.int x1), .val (.int x2), .val (.int x3), .val (.int x4), .val (.int x5), .val (.int (Int32.ofNat ta)), .val (.int (Int32.ofNat ub)), .val (.int B8), .val (.int B9), .val (.int B10), .val (.int B11), .val (.int B12), .val (.int B13), .val (.int B14), .val (.int B15), .val (.int B16), .val (.int B17), .val (.int x0), .val (.int x1), .val (.int P20), .val (.int P21), .val (.int (Int32.ofNat kA)), .val (.int (Int32.ofNat kB)), .val (.ref b13), .val (.ref b15), .unset] []))
          refine own_go (fun _ kk_ => XS.iload Xf5.here hx rfl (hb hby at_314) rfl kk_) ?_
          show own_G p e below s _ _ _ (Tf5.setTop (mkF m 316 #[.val (.int x0), .val (.int x1), .val (.int x2), .val (.int x3), .val (.int x4), .val (.int x5), .val (.int (Int32.ofNat ta)), .val (.int (Int32.ofNat ub)), .val (.int B8), .val (.int B9), .val (.int B10), .val (.int B11), .val (.int B12), .val (.int B13), .val (.int B14), .val (.int B15), .val (.int B16), .val (.int B17), .val (.int x0), .val (.int x1), .val (.int P20), .val (.int P21), .val (.int (Int32.ofNat kA)), .val (.int (Int32.ofNat kB)), .val (.ref b13), .val (.ref b15), .unset] [(.int B16)]))
          refine own_if_ne Xf5 hx (pc := 316) (pc' := 433) (hb hby at_316) (by decide) (by decide) (fun hc316 => ?_) (fun hc316 => ?_)
          · exact J433 _ _ (Xf5.more (by decide) (by decide)) Nf5 ef5 (Or.inr (Or.inr (Or.inl ⟨hc311, hc316⟩)))
          · exact J30 _ _ (Xf5.more (by decide) (by decide)) Nf5 ef5 (fun z => z.2 hc316)
      intro T30 lo30 X30 N30 e30 hbr
      show own_G p e below s _ _ _ (T30.setTop (mkF m 319 #[.val (.int x0), .val (.int x1), .val (.int x2), .val (.int x3), .val (.int x4), .val (.int x5), .val (.int (Int32.ofNat ta)), .val (.int (Int32.ofNat ub)), .val (.int B8), .val (.int B9), .val (.int B10), .val (.int B11), .val (.int B12), .val (.int B13), .val (.int B14), .val (.int B15), .val (.int B16), .val (.int B17), .val (.int x0), .val (.int x1), .val (.int P20), .val (.int P21), .val (.int (Int32.ofNat kA)), .val (.int (Int32.ofNat kB)), .val (.ref b13), .val (.ref b15), .unset] []))
      suffices J31 : ∀ (T31 : State) (lo31 : List Loc), Stand p l e room_1 s m #[(.int x0), (.int x1), (.int x2), (.int x3), (.int x4), (.int x5)] below meth c T31 lo31 10 34 → Fr n0 lo31 → T31.heap = hf5 → (¬ (¬ B13 = 0 ∧ ¬ B15 = 0)) → own_G p e below s (Q_rm0 Z x0 x1 x2 x3 x4 x5 h0 n0) 32 192 (T31.setTop (mkF m 329 #[.val (.int x0), .val (.int x1), .val (.int x2), .val (.int x3), .val (.int x4), .val (.int x5), .val (.int (Int32.ofNat ta)), .val (.int (Int32.ofNat ub)), .val (.int B8), .val (.int B9), .val (.int B10), .val (.int B11), .val (.int B12), .val (.int B13), .val (.int B14), .val (.int B15), .val (.int B16), .val (.int B17), .val (.int x0), .val (.int x1), .val (.int P20), .val (.int P21), .val (.int (Int32.ofNat kA)), .val (.int (Int32.ofNat kB)), .val (.ref b13), .val (.ref b15), .unset] [])) by
        show own_G p e below s _ _ _ (T30.setTop (mkF m 319 #[.val (.int x0), .val (.int x1), .val (.int x2), .val (.int x3), .val (.int x4), .val (.int x5), .val (.int (Int32.ofNat ta)), .val (.int (Int32.ofNat ub)), .val (.int B8), .val (.int B9), .val (.int B10), .val (.int B11), .val (.int B12), .val (.int B13), .val (.int B14), .val (.int B15), .val (.int B16), .val (.int B17), .val (.int x0), .val (.int x1), .val (.int P20), .val (.int P21), .val (.int (Int32.ofNat kA)), .val (.int (Int32.ofNat kB)), .val (.ref b13), .val (.ref b15), .unset] []))
        refine own_go (fun _ kk_ => XS.iload X30.here hx rfl (hb hby at_319) rfl kk_) ?_
        show own_G p e below s _ _ _ (T30.setTop (mkF m 321 #[.val (.int x0), .val (.int x1), .val (.int x2), .val (.int x3), .val (.int x4), .val (.int x5), .val (.int (Int32.ofNat ta)), .val (.int (Int32.ofNat ub)), .val (.int B8), .val (.int B9), .val (.int B10), .val (.int B11), .val (.int B12), .val (.int B13), .val (.int B14), .val (.int B15), .val (.int B16), .val (.int B17), .val (.int x0), .val (.int x1), .val (.int P20), .val (.int P21), .val (.int (Int32.ofNat kA)), .val (.int (Int32.ofNat kB)), .val (.ref b13), .val (.ref b15), .unset] [(.int B13)]))
        refine own_if_eq X30 hx (pc := 321) (pc' := 329) (hb hby at_321) (by decide) (by decide) (fun hc321 => ?_) (fun hc321 => ?_)
        · exact J31 _ _ (X30.more (by decide) (by decide)) N30 e30 (fun z => z.1 hc321)
        · show own_G p e below s _ _ _ (T30.setTop (mkF m 324 #[.val (.int x0), .val (.int x1), .val (.int x2), .val (.int x3), .val (.int x4), .val (.int x5), .val (.int (Int32.ofNat ta)), .val (.int (Int32.ofNat ub)), .val (.int B8), .val (.int B9), .val (.int B10), .val (.int B11), .val (.int B12), .val (.int B13), .val (.int B14), .val (.int B15), .val (.int B16), .val (.int B17), .val (.int x0), .val (.int x1), .val (.int P20), .val (.int P21), .val (.int (Int32.ofNat kA)), .val (.int (Int32.ofNat kB)), .val (.ref b13), .val (.ref b15), .unset] []))
          refine own_go (fun _ kk_ => XS.iload X30.here hx rfl (hb hby at_324) rfl kk_) ?_
          show own_G p e below s _ _ _ (T30.setTop (mkF m 326 #[.val (.int x0), .val (.int x1), .val (.int x2), .val (.int x3), .val (.int x4), .val (.int x5), .val (.int (Int32.ofNat ta)), .val (.int (Int32.ofNat ub)), .val (.int B8), .val (.int B9), .val (.int B10), .val (.int B11), .val (.int B12), .val (.int B13), .val (.int B14), .val (.int B15), .val (.int B16), .val (.int B17), .val (.int x0), .val (.int x1), .val (.int P20), .val (.int P21), .val (.int (Int32.ofNat kA)), .val (.int (Int32.ofNat kB)), .val (.ref b13), .val (.ref b15), .unset] [(.int B15)]))
          refine own_if_ne X30 hx (pc := 326) (pc' := 433) (hb hby at_326) (by decide) (by decide) (fun hc326 => ?_) (fun hc326 => ?_)
          · exact J433 _ _ (X30.more (by decide) (by decide)) N30 e30 (Or.inr (Or.inr (Or.inr (Or.inl ⟨hc321, hc326⟩))))
          · exact J31 _ _ (X30.more (by decide) (by decide)) N30 e30 (fun z => z.2 hc326)
      intro T31 lo31 X31 N31 e31 hrb
      show own_G p e below s _ _ _ (T31.setTop (mkF m 329 #[.val (.int x0), .val (.int x1), .val (.int x2), .val (.int x3), .val (.int x4), .val (.int x5), .val (.int (Int32.ofNat ta)), .val (.int (Int32.ofNat ub)), .val (.int B8), .val (.int B9), .val (.int B10), .val (.int B11), .val (.int B12), .val (.int B13), .val (.int B14), .val (.int B15), .val (.int B16), .val (.int B17), .val (.int x0), .val (.int x1), .val (.int P20), .val (.int P21), .val (.int (Int32.ofNat kA)), .val (.int (Int32.ofNat kB)), .val (.ref b13), .val (.ref b15), .unset] []))
      suffices J32 : ∀ (T32 : State) (lo32 : List Loc), Stand p l e room_1 s m #[(.int x0), (.int x1), (.int x2), (.int x3), (.int x4), (.int x5)] below meth c T32 lo32 10 34 → Fr n0 lo32 → T32.heap = hf5 → (¬ (0 < Int32.ofNat ta ∧ 0 < Int32.ofNat ub ∧ own_cf c0 w0 d0 v0)) → own_G p e below s (Q_rm0 Z x0 x1 x2 x3 x4 x5 h0 n0) 32 192 (T32.setTop (mkF m 355 #[.val (.int x0), .val (.int x1), .val (.int x2), .val (.int x3), .val (.int x4), .val (.int x5), .val (.int (Int32.ofNat ta)), .val (.int (Int32.ofNat ub)), .val (.int B8), .val (.int B9), .val (.int B10), .val (.int B11), .val (.int B12), .val (.int B13), .val (.int B14), .val (.int B15), .val (.int B16), .val (.int B17), .val (.int x0), .val (.int x1), .val (.int P20), .val (.int P21), .val (.int (Int32.ofNat kA)), .val (.int (Int32.ofNat kB)), .val (.ref b13), .val (.ref b15), .unset] [])) by
        show own_G p e below s _ _ _ (T31.setTop (mkF m 329 #[.val (.int x0), .val (.int x1), .val (.int x2), .val (.int x3), .val (.int x4), .val (.int x5), .val (.int (Int32.ofNat ta)), .val (.int (Int32.ofNat ub)), .val (.int B8), .val (.int B9), .val (.int B10), .val (.int B11), .val (.int B12), .val (.int B13), .val (.int B14), .val (.int B15), .val (.int B16), .val (.int B17), .val (.int x0), .val (.int x1), .val (.int P20), .val (.int P21), .val (.int (Int32.ofNat kA)), .val (.int (Int32.ofNat kB)), .val (.ref b13), .val (.ref b15), .unset] []))
        refine own_go (fun _ kk_ => XS.iload X31.here hx rfl (hb hby at_329) rfl kk_) ?_
        show own_G p e below s _ _ _ (T31.setTop (mkF m 331 #[.val (.int x0), .val (.int x1), .val (.int x2), .val (.int x3), .val (.int x4), .val (.int x5), .val (.int (Int32.ofNat ta)), .val (.int (Int32.ofNat ub)), .val (.int B8), .val (.int B9), .val (.int B10), .val (.int B11), .val (.int B12), .val (.int B13), .val (.int B14), .val (.int B15), .val (.int B16), .val (.int B17), .val (.int x0), .val (.int x1), .val (.int P20), .val (.int P21), .val (.int (Int32.ofNat kA)), .val (.int (Int32.ofNat kB)), .val (.ref b13), .val (.ref b15), .unset] [(.int (Int32.ofNat ta))]))
        refine own_go (fun _ kk_ => XS.iconst X31.here hx rfl (hb hby at_331) kk_) ?_
        show own_G p e below s _ _ _ (T31.setTop (mkF m 332 #[.val (.int x0), .val (.int x1), .val (.int x2), .val (.int x3), .val (.int x4), .val (.int x5), .val (.int (Int32.ofNat ta)), .val (.int (Int32.ofNat ub)), .val (.int B8), .val (.int B9), .val (.int B10), .val (.int B11), .val (.int B12), .val (.int B13), .val (.int B14), .val (.int B15), .val (.int B16), .val (.int B17), .val (.int x0), .val (.int x1), .val (.int P20), .val (.int P21), .val (.int (Int32.ofNat kA)), .val (.int (Int32.ofNat kB)), .val (.ref b13), .val (.ref b15), .unset] [(.int (1 : Int32)), (.int (Int32.ofNat ta))]))
        refine own_ic_lt X31 hx (pc := 332) (pc' := 355) (hb hby at_332) (by decide) (by decide) (fun hc332 => ?_) (fun hc332 => ?_)
        · exact J32 _ _ (X31.more (by decide) (by decide)) N31 e31 (fun z => absurd (qa3.mp z.1) (by have := qa1.mp hc332; omega))
        · show own_G p e below s _ _ _ (T31.setTop (mkF m 335 #[.val (.int x0), .val (.int x1), .val (.int x2), .val (.int x3), .val (.int x4), .val (.int x5), .val (.int (Int32.ofNat ta)), .val (.int (Int32.ofNat ub)), .val (.int B8), .val (.int B9), .val (.int B10), .val (.int B11), .val (.int B12), .val (.int B13), .val (.int B14), .val (.int B15), .val (.int B16), .val (.int B17), .val (.int x0), .val (.int x1), .val (.int P20), .val (.int P21), .val (.int (Int32.ofNat kA)), .val (.int (Int32.ofNat kB)), .val (.ref b13), .val (.ref b15), .unset] []))
          refine own_go (fun _ kk_ => XS.iload X31.here hx rfl (hb hby at_335) rfl kk_) ?_
          show own_G p e below s _ _ _ (T31.setTop (mkF m 337 #[.val (.int x0), .val (.int x1), .val (.int x2), .val (.int x3), .val (.int x4), .val (.int x5), .val (.int (Int32.ofNat ta)), .val (.int (Int32.ofNat ub)), .val (.int B8), .val (.int B9), .val (.int B10), .val (.int B11), .val (.int B12), .val (.int B13), .val (.int B14), .val (.int B15), .val (.int B16), .val (.int B17), .val (.int x0), .val (.int x1), .val (.int P20), .val (.int P21), .val (.int (Int32.ofNat kA)), .val (.int (Int32.ofNat kB)), .val (.ref b13), .val (.ref b15), .unset] [(.int (Int32.ofNat ub))]))
          refine own_go (fun _ kk_ => XS.iconst X31.here hx rfl (hb hby at_337) kk_) ?_
          show own_G p e below s _ _ _ (T31.setTop (mkF m 338 #[.val (.int x0), .val (.int x1), .val (.int x2), .val (.int x3), .val (.int x4), .val (.int x5), .val (.int (Int32.ofNat ta)), .val (.int (Int32.ofNat ub)), .val (.int B8), .val (.int B9), .val (.int B10), .val (.int B11), .val (.int B12), .val (.int B13), .val (.int B14), .val (.int B15), .val (.int B16), .val (.int B17), .val (.int x0), .val (.int x1), .val (.int P20), .val (.int P21), .val (.int (Int32.ofNat kA)), .val (.int (Int32.ofNat kB)), .val (.ref b13), .val (.ref b15), .unset] [(.int (1 : Int32)), (.int (Int32.ofNat ub))]))
          refine own_ic_lt X31 hx (pc := 338) (pc' := 355) (hb hby at_338) (by decide) (by decide) (fun hc338 => ?_) (fun hc338 => ?_)
          · exact J32 _ _ (X31.more (by decide) (by decide)) N31 e31 (fun z => absurd (qb3.mp z.2.1) (by have := qb1.mp hc338; omega))
          · show own_G p e below s _ _ _ (T31.setTop (mkF m 341 #[.val (.int x0), .val (.int x1), .val (.int x2), .val (.int x3), .val (.int x4), .val (.int x5), .val (.int (Int32.ofNat ta)), .val (.int (Int32.ofNat ub)), .val (.int B8), .val (.int B9), .val (.int B10), .val (.int B11), .val (.int B12), .val (.int B13), .val (.int B14), .val (.int B15), .val (.int B16), .val (.int B17), .val (.int x0), .val (.int x1), .val (.int P20), .val (.int P21), .val (.int (Int32.ofNat kA)), .val (.int (Int32.ofNat kB)), .val (.ref b13), .val (.ref b15), .unset] []))
            refine own_go (fun _ kk_ => XS.iload X31.here hx rfl (hb hby at_341) rfl kk_) ?_
            show own_G p e below s _ _ _ (T31.setTop (mkF m 343 #[.val (.int x0), .val (.int x1), .val (.int x2), .val (.int x3), .val (.int x4), .val (.int x5), .val (.int (Int32.ofNat ta)), .val (.int (Int32.ofNat ub)), .val (.int B8), .val (.int B9), .val (.int B10), .val (.int B11), .val (.int B12), .val (.int B13), .val (.int B14), .val (.int B15), .val (.int B16), .val (.int B17), .val (.int x0), .val (.int x1), .val (.int P20), .val (.int P21), .val (.int (Int32.ofNat kA)), .val (.int (Int32.ofNat kB)), .val (.ref b13), .val (.ref b15), .unset] [(.int x0)]))
            refine own_go (fun _ kk_ => XS.iload X31.here hx rfl (hb hby at_343) rfl kk_) ?_
            show own_G p e below s _ _ _ (T31.setTop (mkF m 345 #[.val (.int x0), .val (.int x1), .val (.int x2), .val (.int x3), .val (.int x4), .val (.int x5), .val (.int (Int32.ofNat ta)), .val (.int (Int32.ofNat ub)), .val (.int B8), .val (.int B9), .val (.int B10), .val (.int B11), .val (.int B12), .val (.int B13), .val (.int B14), .val (.int B15), .val (.int B16), .val (.int B17), .val (.int x0), .val (.int x1), .val (.int P20), .val (.int P21), .val (.int (Int32.ofNat kA)), .val (.int (Int32.ofNat kB)), .val (.ref b13), .val (.ref b15), .unset] [(.int B8), (.int x0)]))
            refine own_go (fun _ kk_ => XS.iload X31.here hx rfl (hb hby at_345) rfl kk_) ?_
            show own_G p e below s _ _ _ (T31.setTop (mkF m 347 #[.val (.int x0), .val (.int x1), .val (.int x2), .val (.int x3), .val (.int x4), .val (.int x5), .val (.int (Int32.ofNat ta)), .val (.int (Int32.ofNat ub)), .val (.int B8), .val (.int B9), .val (.int B10), .val (.int B11), .val (.int B12), .val (.int B13), .val (.int B14), .val (.int B15), .val (.int B16), .val (.int B17), .val (.int x0), .val (.int x1), .val (.int P20), .val (.int P21), .val (.int (Int32.ofNat kA)), .val (.int (Int32.ofNat kB)), .val (.ref b13), .val (.ref b15), .unset] [(.int P20), (.int B8), (.int x0)]))
            refine own_go (fun _ kk_ => XS.iload X31.here hx rfl (hb hby at_347) rfl kk_) ?_
            show own_G p e below s _ _ _ (T31.setTop (mkF m 349 #[.val (.int x0), .val (.int x1), .val (.int x2), .val (.int x3), .val (.int x4), .val (.int x5), .val (.int (Int32.ofNat ta)), .val (.int (Int32.ofNat ub)), .val (.int B8), .val (.int B9), .val (.int B10), .val (.int B11), .val (.int B12), .val (.int B13), .val (.int B14), .val (.int B15), .val (.int B16), .val (.int B17), .val (.int x0), .val (.int x1), .val (.int P20), .val (.int P21), .val (.int (Int32.ofNat kA)), .val (.int (Int32.ofNat kB)), .val (.ref b13), .val (.ref b15), .unset] [(.int B10), (.int P20), (.int B8), (.int x0)]))
            have hia : 1 ≤ ta := Nat.le_of_not_lt (fun z => hc332 (qa1.mpr z))
            have hib : 1 ≤ ub := Nat.le_of_not_lt (fun z => hc338 (qb1.mpr z))
            obtain ⟨_, _, ⟨T33, L33, k33, n33⟩, -, X33, ⟨Lc33, hQ33, l33, y33, z33⟩, st33⟩ := Jvm.LawKit.callS X31 hx (y := (⟨"com/example/relyguard/relyguard/FootprintDependsOnPinLaw", "conflict", "(IZIZ)Z"⟩ : MethodName)) hown (mvT hZ (hw _ (List.mem_of_getElem? (i := 102) rfl))) (mvT hZ (hw _ (List.mem_of_getElem? (i := 103) rfl))) (mvT hZ (hw _ (List.mem_of_getElem? (i := 2) rfl))) (mvT hZ (hw _ (List.mem_of_getElem? (i := 104) rfl))) (by decide) (backOf (W := 0) (rmCf l Z a0 hw [] x0 B8 P20 B10 hf5 n0 Zf5) hZ (hw _ (List.mem_of_getElem? (i := 104) rfl)) (hw _ (List.mem_of_getElem? (i := 2) rfl)) (by decide) (by decide)) (g := (mkF m 349 #[.val (.int x0), .val (.int x1), .val (.int x2), .val (.int x3), .val (.int x4), .val (.int x5), .val (.int (Int32.ofNat ta)), .val (.int (Int32.ofNat ub)), .val (.int B8), .val (.int B9), .val (.int B10), .val (.int B11), .val (.int B12), .val (.int B13), .val (.int B14), .val (.int B15), .val (.int B16), .val (.int B17), .val (.int x0), .val (.int x1), .val (.int P20), .val (.int P21), .val (.int (Int32.ofNat kA)), .val (.int (Int32.ofNat kB)), .val (.ref b13), .val (.ref b15), .unset] [(.int B10), (.int P20), (.int B8), (.int x0)])) rfl (by rw [hml]; rfl) (argsL := [(.int x0), (.int B8), (.int P20), (.int B10)]) (rest := []) (lenOf pd_7 rfl) rfl (by show 2 * 0 + _ ≤ _; exact Nat.le_of_eq rfl) (hb hby at_349) (fun _ _ => ⟨rfl, e31, (by decide : 10 + 0 ≤ _), (by decide : 34 + 0 ≤ _)⟩)
            dsimp only [Pt.U, Pt.locs, Pt.cells, Pt.slots] at X33 l33 y33 z33 st33 hQ33
            subst l33 y33 z33
            obtain ⟨BC, rfl, N33q, e33, hBC⟩ := hQ33
            have N33 := Fr.app N31 N33q
            refine own_go st33 ?_
            show own_G p e below s _ _ _ (T33.setTop (mkF m 352 #[.val (.int x0), .val (.int x1), .val (.int x2), .val (.int x3), .val (.int x4), .val (.int x5), .val (.int (Int32.ofNat ta)), .val (.int (Int32.ofNat ub)), .val (.int B8), .val (.int B9), .val (.int B10), .val (.int B11), .val (.int B12), .val (.int B13), .val (.int B14), .val (.int B15), .val (.int B16), .val (.int B17), .val (.int x0), .val (.int x1), .val (.int P20), .val (.int P21), .val (.int (Int32.ofNat kA)), .val (.int (Int32.ofNat kB)), .val (.ref b13), .val (.ref b15), .unset] [(.int BC)]))
            rcases hBC with ⟨rfl, hcf⟩ | ⟨rfl, hcf⟩
            · skip
              show own_G p e below s _ _ _ (T33.setTop (mkF m 352 #[.val (.int x0), .val (.int x1), .val (.int x2), .val (.int x3), .val (.int x4), .val (.int x5), .val (.int (Int32.ofNat ta)), .val (.int (Int32.ofNat ub)), .val (.int B8), .val (.int B9), .val (.int B10), .val (.int B11), .val (.int B12), .val (.int B13), .val (.int B14), .val (.int B15), .val (.int B16), .val (.int B17), .val (.int x0), .val (.int x1), .val (.int P20), .val (.int P21), .val (.int (Int32.ofNat kA)), .val (.int (Int32.ofNat kB)), .val (.ref b13), .val (.ref b15), .unset] [(.int (1 : Int32))]))
              refine own_if_neY X33 hx (pc := 352) (pc' := 433) (hb hby at_352) (by decide) (by decide) (by decide) ?_
              exact J433 _ _ (X33.more (by decide) (by decide)) N33 e33 (Or.inr (Or.inr (Or.inr (Or.inr (Or.inl ⟨qa3.mpr (by omega), qb3.mpr (by omega), (by rw [(hcx0 (by omega)).1, (hcx0 (by omega)).2, (hdy0 (by omega)).1, (hdy0 (by omega)).2]; exact hcf)⟩)))))
            · skip
              show own_G p e below s _ _ _ (T33.setTop (mkF m 352 #[.val (.int x0), .val (.int x1), .val (.int x2), .val (.int x3), .val (.int x4), .val (.int x5), .val (.int (Int32.ofNat ta)), .val (.int (Int32.ofNat ub)), .val (.int B8), .val (.int B9), .val (.int B10), .val (.int B11), .val (.int B12), .val (.int B13), .val (.int B14), .val (.int B15), .val (.int B16), .val (.int B17), .val (.int x0), .val (.int x1), .val (.int P20), .val (.int P21), .val (.int (Int32.ofNat kA)), .val (.int (Int32.ofNat kB)), .val (.ref b13), .val (.ref b15), .unset] [(.int (0 : Int32))]))
              refine own_if_neN X33 hx (pc := 352) (hb hby at_352) (by decide) ?_
              exact J32 _ _ (X33.more (by decide) (by decide)) N33 e33 (fun z => hcf (by have q := z.2.2; rw [(hcx0 (by omega)).1, (hcx0 (by omega)).2, (hdy0 (by omega)).1, (hdy0 (by omega)).2] at q; exact q))
      intro T32 lo32 X32 N32 e32 hn00
      show own_G p e below s _ _ _ (T32.setTop (mkF m 355 #[.val (.int x0), .val (.int x1), .val (.int x2), .val (.int x3), .val (.int x4), .val (.int x5), .val (.int (Int32.ofNat ta)), .val (.int (Int32.ofNat ub)), .val (.int B8), .val (.int B9), .val (.int B10), .val (.int B11), .val (.int B12), .val (.int B13), .val (.int B14), .val (.int B15), .val (.int B16), .val (.int B17), .val (.int x0), .val (.int x1), .val (.int P20), .val (.int P21), .val (.int (Int32.ofNat kA)), .val (.int (Int32.ofNat kB)), .val (.ref b13), .val (.ref b15), .unset] []))
      suffices J34 : ∀ (T34 : State) (lo34 : List Loc), Stand p l e room_1 s m #[(.int x0), (.int x1), (.int x2), (.int x3), (.int x4), (.int x5)] below meth c T34 lo34 10 34 → Fr n0 lo34 → T34.heap = hf5 → (¬ (0 < Int32.ofNat ta ∧ 1 < Int32.ofNat ub ∧ own_cf c0 w0 d1 v1)) → own_G p e below s (Q_rm0 Z x0 x1 x2 x3 x4 x5 h0 n0) 32 192 (T34.setTop (mkF m 381 #[.val (.int x0), .val (.int x1), .val (.int x2), .val (.int x3), .val (.int x4), .val (.int x5), .val (.int (Int32.ofNat ta)), .val (.int (Int32.ofNat ub)), .val (.int B8), .val (.int B9), .val (.int B10), .val (.int B11), .val (.int B12), .val (.int B13), .val (.int B14), .val (.int B15), .val (.int B16), .val (.int B17), .val (.int x0), .val (.int x1), .val (.int P20), .val (.int P21), .val (.int (Int32.ofNat kA)), .val (.int (Int32.ofNat kB)), .val (.ref b13), .val (.ref b15), .unset] [])) by
        show own_G p e below s _ _ _ (T32.setTop (mkF m 355 #[.val (.int x0), .val (.int x1), .val (.int x2), .val (.int x3), .val (.int x4), .val (.int x5), .val (.int (Int32.ofNat ta)), .val (.int (Int32.ofNat ub)), .val (.int B8), .val (.int B9), .val (.int B10), .val (.int B11), .val (.int B12), .val (.int B13), .val (.int B14), .val (.int B15), .val (.int B16), .val (.int B17), .val (.int x0), .val (.int x1), .val (.int P20), .val (.int P21), .val (.int (Int32.ofNat kA)), .val (.int (Int32.ofNat kB)), .val (.ref b13), .val (.ref b15), .unset] []))
        refine own_go (fun _ kk_ => XS.iload X32.here hx rfl (hb hby at_355) rfl kk_) ?_
        show own_G p e below s _ _ _ (T32.setTop (mkF m 357 #[.val (.int x0), .val (.int x1), .val (.int x2), .val (.int x3), .val (.int x4), .val (.int x5), .val (.int (Int32.ofNat ta)), .val (.int (Int32.ofNat ub)), .val (.int B8), .val (.int B9), .val (.int B10), .val (.int B11), .val (.int B12), .val (.int B13), .val (.int B14), .val (.int B15), .val (.int B16), .val (.int B17), .val (.int x0), .val (.int x1), .val (.int P20), .val (.int P21), .val (.int (Int32.ofNat kA)), .val (.int (Int32.ofNat kB)), .val (.ref b13), .val (.ref b15), .unset] [(.int (Int32.ofNat ta))]))
        refine own_go (fun _ kk_ => XS.iconst X32.here hx rfl (hb hby at_357) kk_) ?_
        show own_G p e below s _ _ _ (T32.setTop (mkF m 358 #[.val (.int x0), .val (.int x1), .val (.int x2), .val (.int x3), .val (.int x4), .val (.int x5), .val (.int (Int32.ofNat ta)), .val (.int (Int32.ofNat ub)), .val (.int B8), .val (.int B9), .val (.int B10), .val (.int B11), .val (.int B12), .val (.int B13), .val (.int B14), .val (.int B15), .val (.int B16), .val (.int B17), .val (.int x0), .val (.int x1), .val (.int P20), .val (.int P21), .val (.int (Int32.ofNat kA)), .val (.int (Int32.ofNat kB)), .val (.ref b13), .val (.ref b15), .unset] [(.int (1 : Int32)), (.int (Int32.ofNat ta))]))
        refine own_ic_lt X32 hx (pc := 358) (pc' := 381) (hb hby at_358) (by decide) (by decide) (fun hc358 => ?_) (fun hc358 => ?_)
        · exact J34 _ _ (X32.more (by decide) (by decide)) N32 e32 (fun z => absurd (qa3.mp z.1) (by have := qa1.mp hc358; omega))
        · show own_G p e below s _ _ _ (T32.setTop (mkF m 361 #[.val (.int x0), .val (.int x1), .val (.int x2), .val (.int x3), .val (.int x4), .val (.int x5), .val (.int (Int32.ofNat ta)), .val (.int (Int32.ofNat ub)), .val (.int B8), .val (.int B9), .val (.int B10), .val (.int B11), .val (.int B12), .val (.int B13), .val (.int B14), .val (.int B15), .val (.int B16), .val (.int B17), .val (.int x0), .val (.int x1), .val (.int P20), .val (.int P21), .val (.int (Int32.ofNat kA)), .val (.int (Int32.ofNat kB)), .val (.ref b13), .val (.ref b15), .unset] []))
          refine own_go (fun _ kk_ => XS.iload X32.here hx rfl (hb hby at_361) rfl kk_) ?_
          show own_G p e below s _ _ _ (T32.setTop (mkF m 363 #[.val (.int x0), .val (.int x1), .val (.int x2), .val (.int x3), .val (.int x4), .val (.int x5), .val (.int (Int32.ofNat ta)), .val (.int (Int32.ofNat ub)), .val (.int B8), .val (.int B9), .val (.int B10), .val (.int B11), .val (.int B12), .val (.int B13), .val (.int B14), .val (.int B15), .val (.int B16), .val (.int B17), .val (.int x0), .val (.int x1), .val (.int P20), .val (.int P21), .val (.int (Int32.ofNat kA)), .val (.int (Int32.ofNat kB)), .val (.ref b13), .val (.ref b15), .unset] [(.int (Int32.ofNat ub))]))
          refine own_go (fun _ kk_ => XS.iconst X32.here hx rfl (hb hby at_363) kk_) ?_
          show own_G p e below s _ _ _ (T32.setTop (mkF m 364 #[.val (.int x0), .val (.int x1), .val (.int x2), .val (.int x3), .val (.int x4), .val (.int x5), .val (.int (Int32.ofNat ta)), .val (.int (Int32.ofNat ub)), .val (.int B8), .val (.int B9), .val (.int B10), .val (.int B11), .val (.int B12), .val (.int B13), .val (.int B14), .val (.int B15), .val (.int B16), .val (.int B17), .val (.int x0), .val (.int x1), .val (.int P20), .val (.int P21), .val (.int (Int32.ofNat kA)), .val (.int (Int32.ofNat kB)), .val (.ref b13), .val (.ref b15), .unset] [(.int (2 : Int32)), (.int (Int32.ofNat ub))]))
          refine own_ic_lt X32 hx (pc := 364) (pc' := 381) (hb hby at_364) (by decide) (by decide) (fun hc364 => ?_) (fun hc364 => ?_)
          · exact J34 _ _ (X32.more (by decide) (by decide)) N32 e32 (fun z => absurd (qb4.mp z.2.1) (by have := qb2.mp hc364; omega))
          · show own_G p e below s _ _ _ (T32.setTop (mkF m 367 #[.val (.int x0), .val (.int x1), .val (.int x2), .val (.int x3), .val (.int x4), .val (.int x5), .val (.int (Int32.ofNat ta)), .val (.int (Int32.ofNat ub)), .val (.int B8), .val (.int B9), .val (.int B10), .val (.int B11), .val (.int B12), .val (.int B13), .val (.int B14), .val (.int B15), .val (.int B16), .val (.int B17), .val (.int x0), .val (.int x1), .val (.int P20), .val (.int P21), .val (.int (Int32.ofNat kA)), .val (.int (Int32.ofNat kB)), .val (.ref b13), .val (.ref b15), .unset] []))
            refine own_go (fun _ kk_ => XS.iload X32.here hx rfl (hb hby at_367) rfl kk_) ?_
            show own_G p e below s _ _ _ (T32.setTop (mkF m 369 #[.val (.int x0), .val (.int x1), .val (.int x2), .val (.int x3), .val (.int x4), .val (.int x5), .val (.int (Int32.ofNat ta)), .val (.int (Int32.ofNat ub)), .val (.int B8), .val (.int B9), .val (.int B10), .val (.int B11), .val (.int B12), .val (.int B13), .val (.int B14), .val (.int B15), .val (.int B16), .val (.int B17), .val (.int x0), .val (.int x1), .val (.int P20), .val (.int P21), .val (.int (Int32.ofNat kA)), .val (.int (Int32.ofNat kB)), .val (.ref b13), .val (.ref b15), .unset] [(.int x0)]))
            refine own_go (fun _ kk_ => XS.iload X32.here hx rfl (hb hby at_369) rfl kk_) ?_
            show own_G p e below s _ _ _ (T32.setTop (mkF m 371 #[.val (.int x0), .val (.int x1), .val (.int x2), .val (.int x3), .val (.int x4), .val (.int x5), .val (.int (Int32.ofNat ta)), .val (.int (Int32.ofNat ub)), .val (.int B8), .val (.int B9), .val (.int B10), .val (.int B11), .val (.int B12), .val (.int B13), .val (.int B14), .val (.int B15), .val (.int B16), .val (.int B17), .val (.int x0), .val (.int x1), .val (.int P20), .val (.int P21), .val (.int (Int32.ofNat kA)), .val (.int (Int32.ofNat kB)), .val (.ref b13), .val (.ref b15), .unset] [(.int B8), (.int x0)]))
            refine own_go (fun _ kk_ => XS.iload X32.here hx rfl (hb hby at_371) rfl kk_) ?_
            show own_G p e below s _ _ _ (T32.setTop (mkF m 373 #[.val (.int x0), .val (.int x1), .val (.int x2), .val (.int x3), .val (.int x4), .val (.int x5), .val (.int (Int32.ofNat ta)), .val (.int (Int32.ofNat ub)), .val (.int B8), .val (.int B9), .val (.int B10), .val (.int B11), .val (.int B12), .val (.int B13), .val (.int B14), .val (.int B15), .val (.int B16), .val (.int B17), .val (.int x0), .val (.int x1), .val (.int P20), .val (.int P21), .val (.int (Int32.ofNat kA)), .val (.int (Int32.ofNat kB)), .val (.ref b13), .val (.ref b15), .unset] [(.int P21), (.int B8), (.int x0)]))
            refine own_go (fun _ kk_ => XS.iload X32.here hx rfl (hb hby at_373) rfl kk_) ?_
            show own_G p e below s _ _ _ (T32.setTop (mkF m 375 #[.val (.int x0), .val (.int x1), .val (.int x2), .val (.int x3), .val (.int x4), .val (.int x5), .val (.int (Int32.ofNat ta)), .val (.int (Int32.ofNat ub)), .val (.int B8), .val (.int B9), .val (.int B10), .val (.int B11), .val (.int B12), .val (.int B13), .val (.int B14), .val (.int B15), .val (.int B16), .val (.int B17), .val (.int x0), .val (.int x1), .val (.int P20), .val (.int P21), .val (.int (Int32.ofNat kA)), .val (.int (Int32.ofNat kB)), .val (.ref b13), .val (.ref b15), .unset] [(.int B11), (.int P21), (.int B8), (.int x0)]))
            have hia : 1 ≤ ta := Nat.le_of_not_lt (fun z => hc358 (qa1.mpr z))
            have hib : 2 ≤ ub := Nat.le_of_not_lt (fun z => hc364 (qb2.mpr z))
            obtain ⟨_, _, ⟨T35, L35, k35, n35⟩, -, X35, ⟨Lc35, hQ35, l35, y35, z35⟩, st35⟩ := Jvm.LawKit.callS X32 hx (y := (⟨"com/example/relyguard/relyguard/FootprintDependsOnPinLaw", "conflict", "(IZIZ)Z"⟩ : MethodName)) hown (mvT hZ (hw _ (List.mem_of_getElem? (i := 102) rfl))) (mvT hZ (hw _ (List.mem_of_getElem? (i := 103) rfl))) (mvT hZ (hw _ (List.mem_of_getElem? (i := 2) rfl))) (mvT hZ (hw _ (List.mem_of_getElem? (i := 104) rfl))) (by decide) (backOf (W := 0) (rmCf l Z a0 hw [] x0 B8 P21 B11 hf5 n0 Zf5) hZ (hw _ (List.mem_of_getElem? (i := 104) rfl)) (hw _ (List.mem_of_getElem? (i := 2) rfl)) (by decide) (by decide)) (g := (mkF m 375 #[.val (.int x0), .val (.int x1), .val (.int x2), .val (.int x3), .val (.int x4), .val (.int x5), .val (.int (Int32.ofNat ta)), .val (.int (Int32.ofNat ub)), .val (.int B8), .val (.int B9), .val (.int B10), .val (.int B11), .val (.int B12), .val (.int B13), .val (.int B14), .val (.int B15), .val (.int B16), .val (.int B17), .val (.int x0), .val (.int x1), .val (.int P20), .val (.int P21), .val (.int (Int32.ofNat kA)), .val (.int (Int32.ofNat kB)), .val (.ref b13), .val (.ref b15), .unset] [(.int B11), (.int P21), (.int B8), (.int x0)])) rfl (by rw [hml]; rfl) (argsL := [(.int x0), (.int B8), (.int P21), (.int B11)]) (rest := []) (lenOf pd_7 rfl) rfl (by show 2 * 0 + _ ≤ _; exact Nat.le_of_eq rfl) (hb hby at_375) (fun _ _ => ⟨rfl, e32, (by decide : 10 + 0 ≤ _), (by decide : 34 + 0 ≤ _)⟩)
            dsimp only [Pt.U, Pt.locs, Pt.cells, Pt.slots] at X35 l35 y35 z35 st35 hQ35
            subst l35 y35 z35
            obtain ⟨BC, rfl, N35q, e35, hBC⟩ := hQ35
            have N35 := Fr.app N32 N35q
            refine own_go st35 ?_
            show own_G p e below s _ _ _ (T35.setTop (mkF m 378 #[.val (.int x0), .val (.int x1), .val (.int x2), .val (.int x3), .val (.int x4), .val (.int x5), .val (.int (Int32.ofNat ta)), .val (.int (Int32.ofNat ub)), .val (.int B8), .val (.int B9), .val (.int B10), .val (.int B11), .val (.int B12), .val (.int B13), .val (.int B14), .val (.int B15), .val (.int B16), .val (.int B17), .val (.int x0), .val (.int x1), .val (.int P20), .val (.int P21), .val (.int (Int32.ofNat kA)), .val (.int (Int32.ofNat kB)), .val (.ref b13), .val (.ref b15), .unset] [(.int BC)]))
            rcases hBC with ⟨rfl, hcf⟩ | ⟨rfl, hcf⟩
            · skip
              show own_G p e below s _ _ _ (T35.setTop (mkF m 378 #[.val (.int x0), .val (.int x1), .val (.int x2), .val (.int x3), .val (.int x4), .val (.int x5), .val (.int (Int32.ofNat ta)), .val (.int (Int32.ofNat ub)), .val (.int B8), .val (.int B9), .val (.int B10), .val (.int B11), .val (.int B12), .val (.int B13), .val (.int B14), .val (.int B15), .val (.int B16), .val (.int B17), .val (.int x0), .val (.int x1), .val (.int P20), .val (.int P21), .val (.int (Int32.ofNat kA)), .val (.int (Int32.ofNat kB)), .val (.ref b13), .val (.ref b15), .unset] [(.int (1 : Int32))]))
              refine own_if_neY X35 hx (pc := 378) (pc' := 433) (hb hby at_378) (by decide) (by decide) (by decide) ?_
              exact J433 _ _ (X35.more (by decide) (by decide)) N35 e35 (Or.inr (Or.inr (Or.inr (Or.inr (Or.inr (Or.inl ⟨qa3.mpr (by omega), qb4.mpr (by omega), (by rw [(hcx0 (by omega)).1, (hcx0 (by omega)).2, (hdy1 (by omega)).1, (hdy1 (by omega)).2]; exact hcf)⟩))))))
            · skip
              show own_G p e below s _ _ _ (T35.setTop (mkF m 378 #[.val (.int x0), .val (.int x1), .val (.int x2), .val (.int x3), .val (.int x4), .val (.int x5), .val (.int (Int32.ofNat ta)), .val (.int (Int32.ofNat ub)), .val (.int B8), .val (.int B9), .val (.int B10), .val (.int B11), .val (.int B12), .val (.int B13), .val (.int B14), .val (.int B15), .val (.int B16), .val (.int B17), .val (.int x0), .val (.int x1), .val (.int P20), .val (.int P21), .val (.int (Int32.ofNat kA)), .val (.int (Int32.ofNat kB)), .val (.ref b13), .val (.ref b15), .unset] [(.int (0 : Int32))]))
              refine own_if_neN X35 hx (pc := 378) (hb hby at_378) (by decide) ?_
              exact J34 _ _ (X35.more (by decide) (by decide)) N35 e35 (fun z => hcf (by have q := z.2.2; rw [(hcx0 (by omega)).1, (hcx0 (by omega)).2, (hdy1 (by omega)).1, (hdy1 (by omega)).2] at q; exact q))
      intro T34 lo34 X34 N34 e34 hn01
      show own_G p e below s _ _ _ (T34.setTop (mkF m 381 #[.val (.int x0), .val (.int x1), .val (.int x2), .val (.int x3), .val (.int x4), .val (.int x5), .val (.int (Int32.ofNat ta)), .val (.int (Int32.ofNat ub)), .val (.int B8), .val (.int B9), .val (.int B10), .val (.int B11), .val (.int B12), .val (.int B13), .val (.int B14), .val (.int B15), .val (.int B16), .val (.int B17), .val (.int x0), .val (.int x1), .val (.int P20), .val (.int P21), .val (.int (Int32.ofNat kA)), .val (.int (Int32.ofNat kB)), .val (.ref b13), .val (.ref b15), .unset] []))
      suffices J36 : ∀ (T36 : State) (lo36 : List Loc), Stand p l e room_1 s m #[(.int x0), (.int x1), (.int x2), (.int x3), (.int x4), (.int x5)] below meth c T36 lo36 10 34 → Fr n0 lo36 → T36.heap = hf5 → (¬ (1 < Int32.ofNat ta ∧ 0 < Int32.ofNat ub ∧ own_cf c1 w1 d0 v0)) → own_G p e below s (Q_rm0 Z x0 x1 x2 x3 x4 x5 h0 n0) 32 192 (T36.setTop (mkF m 407 #[.val (.int x0), .val (.int x1), .val (.int x2), .val (.int x3), .val (.int x4), .val (.int x5), .val (.int (Int32.ofNat ta)), .val (.int (Int32.ofNat ub)), .val (.int B8), .val (.int B9), .val (.int B10), .val (.int B11), .val (.int B12), .val (.int B13), .val (.int B14), .val (.int B15), .val (.int B16), .val (.int B17), .val (.int x0), .val (.int x1), .val (.int P20), .val (.int P21), .val (.int (Int32.ofNat kA)), .val (.int (Int32.ofNat kB)), .val (.ref b13), .val (.ref b15), .unset] [])) by
        show own_G p e below s _ _ _ (T34.setTop (mkF m 381 #[.val (.int x0), .val (.int x1), .val (.int x2), .val (.int x3), .val (.int x4), .val (.int x5), .val (.int (Int32.ofNat ta)), .val (.int (Int32.ofNat ub)), .val (.int B8), .val (.int B9), .val (.int B10), .val (.int B11), .val (.int B12), .val (.int B13), .val (.int B14), .val (.int B15), .val (.int B16), .val (.int B17), .val (.int x0), .val (.int x1), .val (.int P20), .val (.int P21), .val (.int (Int32.ofNat kA)), .val (.int (Int32.ofNat kB)), .val (.ref b13), .val (.ref b15), .unset] []))
        refine own_go (fun _ kk_ => XS.iload X34.here hx rfl (hb hby at_381) rfl kk_) ?_
        show own_G p e below s _ _ _ (T34.setTop (mkF m 383 #[.val (.int x0), .val (.int x1), .val (.int x2), .val (.int x3), .val (.int x4), .val (.int x5), .val (.int (Int32.ofNat ta)), .val (.int (Int32.ofNat ub)), .val (.int B8), .val (.int B9), .val (.int B10), .val (.int B11), .val (.int B12), .val (.int B13), .val (.int B14), .val (.int B15), .val (.int B16), .val (.int B17), .val (.int x0), .val (.int x1), .val (.int P20), .val (.int P21), .val (.int (Int32.ofNat kA)), .val (.int (Int32.ofNat kB)), .val (.ref b13), .val (.ref b15), .unset] [(.int (Int32.ofNat ta))]))
        refine own_go (fun _ kk_ => XS.iconst X34.here hx rfl (hb hby at_383) kk_) ?_
        show own_G p e below s _ _ _ (T34.setTop (mkF m 384 #[.val (.int x0), .val (.int x1), .val (.int x2), .val (.int x3), .val (.int x4), .val (.int x5), .val (.int (Int32.ofNat ta)), .val (.int (Int32.ofNat ub)), .val (.int B8), .val (.int B9), .val (.int B10), .val (.int B11), .val (.int B12), .val (.int B13), .val (.int B14), .val (.int B15), .val (.int B16), .val (.int B17), .val (.int x0), .val (.int x1), .val (.int P20), .val (.int P21), .val (.int (Int32.ofNat kA)), .val (.int (Int32.ofNat kB)), .val (.ref b13), .val (.ref b15), .unset] [(.int (2 : Int32)), (.int (Int32.ofNat ta))]))
        refine own_ic_lt X34 hx (pc := 384) (pc' := 407) (hb hby at_384) (by decide) (by decide) (fun hc384 => ?_) (fun hc384 => ?_)
        · exact J36 _ _ (X34.more (by decide) (by decide)) N34 e34 (fun z => absurd (qa4.mp z.1) (by have := qa2.mp hc384; omega))
        · show own_G p e below s _ _ _ (T34.setTop (mkF m 387 #[.val (.int x0), .val (.int x1), .val (.int x2), .val (.int x3), .val (.int x4), .val (.int x5), .val (.int (Int32.ofNat ta)), .val (.int (Int32.ofNat ub)), .val (.int B8), .val (.int B9), .val (.int B10), .val (.int B11), .val (.int B12), .val (.int B13), .val (.int B14), .val (.int B15), .val (.int B16), .val (.int B17), .val (.int x0), .val (.int x1), .val (.int P20), .val (.int P21), .val (.int (Int32.ofNat kA)), .val (.int (Int32.ofNat kB)), .val (.ref b13), .val (.ref b15), .unset] []))
          refine own_go (fun _ kk_ => XS.iload X34.here hx rfl (hb hby at_387) rfl kk_) ?_
          show own_G p e below s _ _ _ (T34.setTop (mkF m 389 #[.val (.int x0), .val (.int x1), .val (.int x2), .val (.int x3), .val (.int x4), .val (.int x5), .val (.int (Int32.ofNat ta)), .val (.int (Int32.ofNat ub)), .val (.int B8), .val (.int B9), .val (.int B10), .val (.int B11), .val (.int B12), .val (.int B13), .val (.int B14), .val (.int B15), .val (.int B16), .val (.int B17), .val (.int x0), .val (.int x1), .val (.int P20), .val (.int P21), .val (.int (Int32.ofNat kA)), .val (.int (Int32.ofNat kB)), .val (.ref b13), .val (.ref b15), .unset] [(.int (Int32.ofNat ub))]))
          refine own_go (fun _ kk_ => XS.iconst X34.here hx rfl (hb hby at_389) kk_) ?_
          show own_G p e below s _ _ _ (T34.setTop (mkF m 390 #[.val (.int x0), .val (.int x1), .val (.int x2), .val (.int x3), .val (.int x4), .val (.int x5), .val (.int (Int32.ofNat ta)), .val (.int (Int32.ofNat ub)), .val (.int B8), .val (.int B9), .val (.int B10), .val (.int B11), .val (.int B12), .val (.int B13), .val (.int B14), .val (.int B15), .val (.int B16), .val (.int B17), .val (.int x0), .val (.int x1), .val (.int P20), .val (.int P21), .val (.int (Int32.ofNat kA)), .val (.int (Int32.ofNat kB)), .val (.ref b13), .val (.ref b15), .unset] [(.int (1 : Int32)), (.int (Int32.ofNat ub))]))
          refine own_ic_lt X34 hx (pc := 390) (pc' := 407) (hb hby at_390) (by decide) (by decide) (fun hc390 => ?_) (fun hc390 => ?_)
          · exact J36 _ _ (X34.more (by decide) (by decide)) N34 e34 (fun z => absurd (qb3.mp z.2.1) (by have := qb1.mp hc390; omega))
          · show own_G p e below s _ _ _ (T34.setTop (mkF m 393 #[.val (.int x0), .val (.int x1), .val (.int x2), .val (.int x3), .val (.int x4), .val (.int x5), .val (.int (Int32.ofNat ta)), .val (.int (Int32.ofNat ub)), .val (.int B8), .val (.int B9), .val (.int B10), .val (.int B11), .val (.int B12), .val (.int B13), .val (.int B14), .val (.int B15), .val (.int B16), .val (.int B17), .val (.int x0), .val (.int x1), .val (.int P20), .val (.int P21), .val (.int (Int32.ofNat kA)), .val (.int (Int32.ofNat kB)), .val (.ref b13), .val (.ref b15), .unset] []))
            refine own_go (fun _ kk_ => XS.iload X34.here hx rfl (hb hby at_393) rfl kk_) ?_
            show own_G p e below s _ _ _ (T34.setTop (mkF m 395 #[.val (.int x0), .val (.int x1), .val (.int x2), .val (.int x3), .val (.int x4), .val (.int x5), .val (.int (Int32.ofNat ta)), .val (.int (Int32.ofNat ub)), .val (.int B8), .val (.int B9), .val (.int B10), .val (.int B11), .val (.int B12), .val (.int B13), .val (.int B14), .val (.int B15), .val (.int B16), .val (.int B17), .val (.int x0), .val (.int x1), .val (.int P20), .val (.int P21), .val (.int (Int32.ofNat kA)), .val (.int (Int32.ofNat kB)), .val (.ref b13), .val (.ref b15), .unset] [(.int x1)]))
            refine own_go (fun _ kk_ => XS.iload X34.here hx rfl (hb hby at_395) rfl kk_) ?_
            show own_G p e below s _ _ _ (T34.setTop (mkF m 397 #[.val (.int x0), .val (.int x1), .val (.int x2), .val (.int x3), .val (.int x4), .val (.int x5), .val (.int (Int32.ofNat ta)), .val (.int (Int32.ofNat ub)), .val (.int B8), .val (.int B9), .val (.int B10), .val (.int B11), .val (.int B12), .val (.int B13), .val (.int B14), .val (.int B15), .val (.int B16), .val (.int B17), .val (.int x0), .val (.int x1), .val (.int P20), .val (.int P21), .val (.int (Int32.ofNat kA)), .val (.int (Int32.ofNat kB)), .val (.ref b13), .val (.ref b15), .unset] [(.int B9), (.int x1)]))
            refine own_go (fun _ kk_ => XS.iload X34.here hx rfl (hb hby at_397) rfl kk_) ?_
            show own_G p e below s _ _ _ (T34.setTop (mkF m 399 #[.val (.int x0), .val (.int x1), .val (.int x2), .val (.int x3), .val (.int x4), .val (.int x5), .val (.int (Int32.ofNat ta)), .val (.int (Int32.ofNat ub)), .val (.int B8), .val (.int B9), .val (.int B10), .val (.int B11), .val (.int B12), .val (.int B13), .val (.int B14), .val (.int B15), .val (.int B16), .val (.int B17), .val (.int x0), .val (.int x1), .val (.int P20), .val (.int P21), .val (.int (Int32.ofNat kA)), .val (.int (Int32.ofNat kB)), .val (.ref b13), .val (.ref b15), .unset] [(.int P20), (.int B9), (.int x1)]))
            refine own_go (fun _ kk_ => XS.iload X34.here hx rfl (hb hby at_399) rfl kk_) ?_
            show own_G p e below s _ _ _ (T34.setTop (mkF m 401 #[.val (.int x0), .val (.int x1), .val (.int x2), .val (.int x3), .val (.int x4), .val (.int x5), .val (.int (Int32.ofNat ta)), .val (.int (Int32.ofNat ub)), .val (.int B8), .val (.int B9), .val (.int B10), .val (.int B11), .val (.int B12), .val (.int B13), .val (.int B14), .val (.int B15), .val (.int B16), .val (.int B17), .val (.int x0), .val (.int x1), .val (.int P20), .val (.int P21), .val (.int (Int32.ofNat kA)), .val (.int (Int32.ofNat kB)), .val (.ref b13), .val (.ref b15), .unset] [(.int B10), (.int P20), (.int B9), (.int x1)]))
            have hia : 2 ≤ ta := Nat.le_of_not_lt (fun z => hc384 (qa2.mpr z))
            have hib : 1 ≤ ub := Nat.le_of_not_lt (fun z => hc390 (qb1.mpr z))
            obtain ⟨_, _, ⟨T37, L37, k37, n37⟩, -, X37, ⟨Lc37, hQ37, l37, y37, z37⟩, st37⟩ := Jvm.LawKit.callS X34 hx (y := (⟨"com/example/relyguard/relyguard/FootprintDependsOnPinLaw", "conflict", "(IZIZ)Z"⟩ : MethodName)) hown (mvT hZ (hw _ (List.mem_of_getElem? (i := 102) rfl))) (mvT hZ (hw _ (List.mem_of_getElem? (i := 103) rfl))) (mvT hZ (hw _ (List.mem_of_getElem? (i := 2) rfl))) (mvT hZ (hw _ (List.mem_of_getElem? (i := 104) rfl))) (by decide) (backOf (W := 0) (rmCf l Z a0 hw [] x1 B9 P20 B10 hf5 n0 Zf5) hZ (hw _ (List.mem_of_getElem? (i := 104) rfl)) (hw _ (List.mem_of_getElem? (i := 2) rfl)) (by decide) (by decide)) (g := (mkF m 401 #[.val (.int x0), .val (.int x1), .val (.int x2), .val (.int x3), .val (.int x4), .val (.int x5), .val (.int (Int32.ofNat ta)), .val (.int (Int32.ofNat ub)), .val (.int B8), .val (.int B9), .val (.int B10), .val (.int B11), .val (.int B12), .val (.int B13), .val (.int B14), .val (.int B15), .val (.int B16), .val (.int B17), .val (.int x0), .val (.int x1), .val (.int P20), .val (.int P21), .val (.int (Int32.ofNat kA)), .val (.int (Int32.ofNat kB)), .val (.ref b13), .val (.ref b15), .unset] [(.int B10), (.int P20), (.int B9), (.int x1)])) rfl (by rw [hml]; rfl) (argsL := [(.int x1), (.int B9), (.int P20), (.int B10)]) (rest := []) (lenOf pd_7 rfl) rfl (by show 2 * 0 + _ ≤ _; exact Nat.le_of_eq rfl) (hb hby at_401) (fun _ _ => ⟨rfl, e34, (by decide : 10 + 0 ≤ _), (by decide : 34 + 0 ≤ _)⟩)
            dsimp only [Pt.U, Pt.locs, Pt.cells, Pt.slots] at X37 l37 y37 z37 st37 hQ37
            subst l37 y37 z37
            obtain ⟨BC, rfl, N37q, e37, hBC⟩ := hQ37
            have N37 := Fr.app N34 N37q
            refine own_go st37 ?_
            show own_G p e below s _ _ _ (T37.setTop (mkF m 404 #[.val (.int x0), .val (.int x1), .val (.int x2), .val (.int x3), .val (.int x4), .val (.int x5), .val (.int (Int32.ofNat ta)), .val (.int (Int32.ofNat ub)), .val (.int B8), .val (.int B9), .val (.int B10), .val (.int B11), .val (.int B12), .val (.int B13), .val (.int B14), .val (.int B15), .val (.int B16), .val (.int B17), .val (.int x0), .val (.int x1), .val (.int P20), .val (.int P21), .val (.int (Int32.ofNat kA)), .val (.int (Int32.ofNat kB)), .val (.ref b13), .val (.ref b15), .unset] [(.int BC)]))
            rcases hBC with ⟨rfl, hcf⟩ | ⟨rfl, hcf⟩
            · skip
              show own_G p e below s _ _ _ (T37.setTop (mkF m 404 #[.val (.int x0), .val (.int x1), .val (.int x2), .val (.int x3), .val (.int x4), .val (.int x5), .val (.int (Int32.ofNat ta)), .val (.int (Int32.ofNat ub)), .val (.int B8), .val (.int B9), .val (.int B10), .val (.int B11), .val (.int B12), .val (.int B13), .val (.int B14), .val (.int B15), .val (.int B16), .val (.int B17), .val (.int x0), .val (.int x1), .val (.int P20), .val (.int P21), .val (.int (Int32.ofNat kA)), .val (.int (Int32.ofNat kB)), .val (.ref b13), .val (.ref b15), .unset] [(.int (1 : Int32))]))
              refine own_if_neY X37 hx (pc := 404) (pc' := 433) (hb hby at_404) (by decide) (by decide) (by decide) ?_
              exact J433 _ _ (X37.more (by decide) (by decide)) N37 e37 (Or.inr (Or.inr (Or.inr (Or.inr (Or.inr (Or.inr (Or.inl ⟨qa4.mpr (by omega), qb3.mpr (by omega), (by rw [(hcx1 (by omega)).1, (hcx1 (by omega)).2, (hdy0 (by omega)).1, (hdy0 (by omega)).2]; exact hcf)⟩)))))))
            · skip
              show own_G p e below s _ _ _ (T37.setTop (mkF m 404 #[.val (.int x0), .val (.int x1), .val (.int x2), .val (.int x3), .val (.int x4), .val (.int x5), .val (.int (Int32.ofNat ta)), .val (.int (Int32.ofNat ub)), .val (.int B8), .val (.int B9), .val (.int B10), .val (.int B11), .val (.int B12), .val (.int B13), .val (.int B14), .val (.int B15), .val (.int B16), .val (.int B17), .val (.int x0), .val (.int x1), .val (.int P20), .val (.int P21), .val (.int (Int32.ofNat kA)), .val (.int (Int32.ofNat kB)), .val (.ref b13), .val (.ref b15), .unset] [(.int (0 : Int32))]))
              refine own_if_neN X37 hx (pc := 404) (hb hby at_404) (by decide) ?_
              exact J36 _ _ (X37.more (by decide) (by decide)) N37 e37 (fun z => hcf (by have q := z.2.2; rw [(hcx1 (by omega)).1, (hcx1 (by omega)).2, (hdy0 (by omega)).1, (hdy0 (by omega)).2] at q; exact q))
      intro T36 lo36 X36 N36 e36 hn10
      show own_G p e below s _ _ _ (T36.setTop (mkF m 407 #[.val (.int x0), .val (.int x1), .val (.int x2), .val (.int x3), .val (.int x4), .val (.int x5), .val (.int (Int32.ofNat ta)), .val (.int (Int32.ofNat ub)), .val (.int B8), .val (.int B9), .val (.int B10), .val (.int B11), .val (.int B12), .val (.int B13), .val (.int B14), .val (.int B15), .val (.int B16), .val (.int B17), .val (.int x0), .val (.int x1), .val (.int P20), .val (.int P21), .val (.int (Int32.ofNat kA)), .val (.int (Int32.ofNat kB)), .val (.ref b13), .val (.ref b15), .unset] []))
      suffices J38 : ∀ (T38 : State) (lo38 : List Loc), Stand p l e room_1 s m #[(.int x0), (.int x1), (.int x2), (.int x3), (.int x4), (.int x5)] below meth c T38 lo38 10 34 → Fr n0 lo38 → T38.heap = hf5 → (¬ (1 < Int32.ofNat ta ∧ 1 < Int32.ofNat ub ∧ own_cf c1 w1 d1 v1)) → own_G p e below s (Q_rm0 Z x0 x1 x2 x3 x4 x5 h0 n0) 32 192 (T38.setTop (mkF m 437 #[.val (.int x0), .val (.int x1), .val (.int x2), .val (.int x3), .val (.int x4), .val (.int x5), .val (.int (Int32.ofNat ta)), .val (.int (Int32.ofNat ub)), .val (.int B8), .val (.int B9), .val (.int B10), .val (.int B11), .val (.int B12), .val (.int B13), .val (.int B14), .val (.int B15), .val (.int B16), .val (.int B17), .val (.int x0), .val (.int x1), .val (.int P20), .val (.int P21), .val (.int (Int32.ofNat kA)), .val (.int (Int32.ofNat kB)), .val (.ref b13), .val (.ref b15), .unset] [])) by
        show own_G p e below s _ _ _ (T36.setTop (mkF m 407 #[.val (.int x0), .val (.int x1), .val (.int x2), .val (.int x3), .val (.int x4), .val (.int x5), .val (.int (Int32.ofNat ta)), .val (.int (Int32.ofNat ub)), .val (.int B8), .val (.int B9), .val (.int B10), .val (.int B11), .val (.int B12), .val (.int B13), .val (.int B14), .val (.int B15), .val (.int B16), .val (.int B17), .val (.int x0), .val (.int x1), .val (.int P20), .val (.int P21), .val (.int (Int32.ofNat kA)), .val (.int (Int32.ofNat kB)), .val (.ref b13), .val (.ref b15), .unset] []))
        refine own_go (fun _ kk_ => XS.iload X36.here hx rfl (hb hby at_407) rfl kk_) ?_
        show own_G p e below s _ _ _ (T36.setTop (mkF m 409 #[.val (.int x0), .val (.int x1), .val (.int x2), .val (.int x3), .val (.int x4), .val (.int x5), .val (.int (Int32.ofNat ta)), .val (.int (Int32.ofNat ub)), .val (.int B8), .val (.int B9), .val (.int B10), .val (.int B11), .val (.int B12), .val (.int B13), .val (.int B14), .val (.int B15), .val (.int B16), .val (.int B17), .val (.int x0), .val (.int x1), .val (.int P20), .val (.int P21), .val (.int (Int32.ofNat kA)), .val (.int (Int32.ofNat kB)), .val (.ref b13), .val (.ref b15), .unset] [(.int (Int32.ofNat ta))]))
        refine own_go (fun _ kk_ => XS.iconst X36.here hx rfl (hb hby at_409) kk_) ?_
        show own_G p e below s _ _ _ (T36.setTop (mkF m 410 #[.val (.int x0), .val (.int x1), .val (.int x2), .val (.int x3), .val (.int x4), .val (.int x5), .val (.int (Int32.ofNat ta)), .val (.int (Int32.ofNat ub)), .val (.int B8), .val (.int B9), .val (.int B10), .val (.int B11), .val (.int B12), .val (.int B13), .val (.int B14), .val (.int B15), .val (.int B16), .val (.int B17), .val (.int x0), .val (.int x1), .val (.int P20), .val (.int P21), .val (.int (Int32.ofNat kA)), .val (.int (Int32.ofNat kB)), .val (.ref b13), .val (.ref b15), .unset] [(.int (2 : Int32)), (.int (Int32.ofNat ta))]))
        refine own_ic_lt X36 hx (pc := 410) (pc' := 437) (hb hby at_410) (by decide) (by decide) (fun hc410 => ?_) (fun hc410 => ?_)
        · exact J38 _ _ (X36.more (by decide) (by decide)) N36 e36 (fun z => absurd (qa4.mp z.1) (by have := qa2.mp hc410; omega))
        · show own_G p e below s _ _ _ (T36.setTop (mkF m 413 #[.val (.int x0), .val (.int x1), .val (.int x2), .val (.int x3), .val (.int x4), .val (.int x5), .val (.int (Int32.ofNat ta)), .val (.int (Int32.ofNat ub)), .val (.int B8), .val (.int B9), .val (.int B10), .val (.int B11), .val (.int B12), .val (.int B13), .val (.int B14), .val (.int B15), .val (.int B16), .val (.int B17), .val (.int x0), .val (.int x1), .val (.int P20), .val (.int P21), .val (.int (Int32.ofNat kA)), .val (.int (Int32.ofNat kB)), .val (.ref b13), .val (.ref b15), .unset] []))
          refine own_go (fun _ kk_ => XS.iload X36.here hx rfl (hb hby at_413) rfl kk_) ?_
          show own_G p e below s _ _ _ (T36.setTop (mkF m 415 #[.val (.int x0), .val (.int x1), .val (.int x2), .val (.int x3), .val (.int x4), .val (.int x5), .val (.int (Int32.ofNat ta)), .val (.int (Int32.ofNat ub)), .val (.int B8), .val (.int B9), .val (.int B10), .val (.int B11), .val (.int B12), .val (.int B13), .val (.int B14), .val (.int B15), .val (.int B16), .val (.int B17), .val (.int x0), .val (.int x1), .val (.int P20), .val (.int P21), .val (.int (Int32.ofNat kA)), .val (.int (Int32.ofNat kB)), .val (.ref b13), .val (.ref b15), .unset] [(.int (Int32.ofNat ub))]))
          refine own_go (fun _ kk_ => XS.iconst X36.here hx rfl (hb hby at_415) kk_) ?_
          show own_G p e below s _ _ _ (T36.setTop (mkF m 416 #[.val (.int x0), .val (.int x1), .val (.int x2), .val (.int x3), .val (.int x4), .val (.int x5), .val (.int (Int32.ofNat ta)), .val (.int (Int32.ofNat ub)), .val (.int B8), .val (.int B9), .val (.int B10), .val (.int B11), .val (.int B12), .val (.int B13), .val (.int B14), .val (.int B15), .val (.int B16), .val (.int B17), .val (.int x0), .val (.int x1), .val (.int P20), .val (.int P21), .val (.int (Int32.ofNat kA)), .val (.int (Int32.ofNat kB)), .val (.ref b13), .val (.ref b15), .unset] [(.int (2 : Int32)), (.int (Int32.ofNat ub))]))
          refine own_ic_lt X36 hx (pc := 416) (pc' := 437) (hb hby at_416) (by decide) (by decide) (fun hc416 => ?_) (fun hc416 => ?_)
          · exact J38 _ _ (X36.more (by decide) (by decide)) N36 e36 (fun z => absurd (qb4.mp z.2.1) (by have := qb2.mp hc416; omega))
          · show own_G p e below s _ _ _ (T36.setTop (mkF m 419 #[.val (.int x0), .val (.int x1), .val (.int x2), .val (.int x3), .val (.int x4), .val (.int x5), .val (.int (Int32.ofNat ta)), .val (.int (Int32.ofNat ub)), .val (.int B8), .val (.int B9), .val (.int B10), .val (.int B11), .val (.int B12), .val (.int B13), .val (.int B14), .val (.int B15), .val (.int B16), .val (.int B17), .val (.int x0), .val (.int x1), .val (.int P20), .val (.int P21), .val (.int (Int32.ofNat kA)), .val (.int (Int32.ofNat kB)), .val (.ref b13), .val (.ref b15), .unset] []))
            refine own_go (fun _ kk_ => XS.iload X36.here hx rfl (hb hby at_419) rfl kk_) ?_
            show own_G p e below s _ _ _ (T36.setTop (mkF m 421 #[.val (.int x0), .val (.int x1), .val (.int x2), .val (.int x3), .val (.int x4), .val (.int x5), .val (.int (Int32.ofNat ta)), .val (.int (Int32.ofNat ub)), .val (.int B8), .val (.int B9), .val (.int B10), .val (.int B11), .val (.int B12), .val (.int B13), .val (.int B14), .val (.int B15), .val (.int B16), .val (.int B17), .val (.int x0), .val (.int x1), .val (.int P20), .val (.int P21), .val (.int (Int32.ofNat kA)), .val (.int (Int32.ofNat kB)), .val (.ref b13), .val (.ref b15), .unset] [(.int x1)]))
            refine own_go (fun _ kk_ => XS.iload X36.here hx rfl (hb hby at_421) rfl kk_) ?_
            show own_G p e below s _ _ _ (T36.setTop (mkF m 423 #[.val (.int x0), .val (.int x1), .val (.int x2), .val (.int x3), .val (.int x4), .val (.int x5), .val (.int (Int32.ofNat ta)), .val (.int (Int32.ofNat ub)), .val (.int B8), .val (.int B9), .val (.int B10), .val (.int B11), .val (.int B12), .val (.int B13), .val (.int B14), .val (.int B15), .val (.int B16), .val (.int B17), .val (.int x0), .val (.int x1), .val (.int P20), .val (.int P21), .val (.int (Int32.ofNat kA)), .val (.int (Int32.ofNat kB)), .val (.ref b13), .val (.ref b15), .unset] [(.int B9), (.int x1)]))
            refine own_go (fun _ kk_ => XS.iload X36.here hx rfl (hb hby at_423) rfl kk_) ?_
            show own_G p e below s _ _ _ (T36.setTop (mkF m 425 #[.val (.int x0), .val (.int x1), .val (.int x2), .val (.int x3), .val (.int x4), .val (.int x5), .val (.int (Int32.ofNat ta)), .val (.int (Int32.ofNat ub)), .val (.int B8), .val (.int B9), .val (.int B10), .val (.int B11), .val (.int B12), .val (.int B13), .val (.int B14), .val (.int B15), .val (.int B16), .val (.int B17), .val (.int x0), .val (.int x1), .val (.int P20), .val (.int P21), .val (.int (Int32.ofNat kA)), .val (.int (Int32.ofNat kB)), .val (.ref b13), .val (.ref b15), .unset] [(.int P21), (.int B9), (.int x1)]))
            refine own_go (fun _ kk_ => XS.iload X36.here hx rfl (hb hby at_425) rfl kk_) ?_
            show own_G p e below s _ _ _ (T36.setTop (mkF m 427 #[.val (.int x0), .val (.int x1), .val (.int x2), .val (.int x3), .val (.int x4), .val (.int x5), .val (.int (Int32.ofNat ta)), .val (.int (Int32.ofNat ub)), .val (.int B8), .val (.int B9), .val (.int B10), .val (.int B11), .val (.int B12), .val (.int B13), .val (.int B14), .val (.int B15), .val (.int B16), .val (.int B17), .val (.int x0), .val (.int x1), .val (.int P20), .val (.int P21), .val (.int (Int32.ofNat kA)), .val (.int (Int32.ofNat kB)), .val (.ref b13), .val (.ref b15), .unset] [(.int B11), (.int P21), (.int B9), (.int x1)]))
            have hia : 2 ≤ ta := Nat.le_of_not_lt (fun z => hc410 (qa2.mpr z))
            have hib : 2 ≤ ub := Nat.le_of_not_lt (fun z => hc416 (qb2.mpr z))
            obtain ⟨_, _, ⟨T39, L39, k39, n39⟩, -, X39, ⟨Lc39, hQ39, l39, y39, z39⟩, st39⟩ := Jvm.LawKit.callS X36 hx (y := (⟨"com/example/relyguard/relyguard/FootprintDependsOnPinLaw", "conflict", "(IZIZ)Z"⟩ : MethodName)) hown (mvT hZ (hw _ (List.mem_of_getElem? (i := 102) rfl))) (mvT hZ (hw _ (List.mem_of_getElem? (i := 103) rfl))) (mvT hZ (hw _ (List.mem_of_getElem? (i := 2) rfl))) (mvT hZ (hw _ (List.mem_of_getElem? (i := 104) rfl))) (by decide) (backOf (W := 0) (rmCf l Z a0 hw [] x1 B9 P21 B11 hf5 n0 Zf5) hZ (hw _ (List.mem_of_getElem? (i := 104) rfl)) (hw _ (List.mem_of_getElem? (i := 2) rfl)) (by decide) (by decide)) (g := (mkF m 427 #[.val (.int x0), .val (.int x1), .val (.int x2), .val (.int x3), .val (.int x4), .val (.int x5), .val (.int (Int32.ofNat ta)), .val (.int (Int32.ofNat ub)), .val (.int B8), .val (.int B9), .val (.int B10), .val (.int B11), .val (.int B12), .val (.int B13), .val (.int B14), .val (.int B15), .val (.int B16), .val (.int B17), .val (.int x0), .val (.int x1), .val (.int P20), .val (.int P21), .val (.int (Int32.ofNat kA)), .val (.int (Int32.ofNat kB)), .val (.ref b13), .val (.ref b15), .unset] [(.int B11), (.int P21), (.int B9), (.int x1)])) rfl (by rw [hml]; rfl) (argsL := [(.int x1), (.int B9), (.int P21), (.int B11)]) (rest := []) (lenOf pd_7 rfl) rfl (by show 2 * 0 + _ ≤ _; exact Nat.le_of_eq rfl) (hb hby at_427) (fun _ _ => ⟨rfl, e36, (by decide : 10 + 0 ≤ _), (by decide : 34 + 0 ≤ _)⟩)
            dsimp only [Pt.U, Pt.locs, Pt.cells, Pt.slots] at X39 l39 y39 z39 st39 hQ39
            subst l39 y39 z39
            obtain ⟨BC, rfl, N39q, e39, hBC⟩ := hQ39
            have N39 := Fr.app N36 N39q
            refine own_go st39 ?_
            show own_G p e below s _ _ _ (T39.setTop (mkF m 430 #[.val (.int x0), .val (.int x1), .val (.int x2), .val (.int x3), .val (.int x4), .val (.int x5), .val (.int (Int32.ofNat ta)), .val (.int (Int32.ofNat ub)), .val (.int B8), .val (.int B9), .val (.int B10), .val (.int B11), .val (.int B12), .val (.int B13), .val (.int B14), .val (.int B15), .val (.int B16), .val (.int B17), .val (.int x0), .val (.int x1), .val (.int P20), .val (.int P21), .val (.int (Int32.ofNat kA)), .val (.int (Int32.ofNat kB)), .val (.ref b13), .val (.ref b15), .unset] [(.int BC)]))
            rcases hBC with ⟨rfl, hcf⟩ | ⟨rfl, hcf⟩
            · skip
              show own_G p e below s _ _ _ (T39.setTop (mkF m 430 #[.val (.int x0), .val (.int x1), .val (.int x2), .val (.int x3), .val (.int x4), .val (.int x5), .val (.int (Int32.ofNat ta)), .val (.int (Int32.ofNat ub)), .val (.int B8), .val (.int B9), .val (.int B10), .val (.int B11), .val (.int B12), .val (.int B13), .val (.int B14), .val (.int B15), .val (.int B16), .val (.int B17), .val (.int x0), .val (.int x1), .val (.int P20), .val (.int P21), .val (.int (Int32.ofNat kA)), .val (.int (Int32.ofNat kB)), .val (.ref b13), .val (.ref b15), .unset] [(.int (1 : Int32))]))
              refine own_if_eqN X39 hx (pc := 430) (hb hby at_430) (by decide) ?_
              exact J433 _ _ (X39.more (by decide) (by decide)) N39 e39 (Or.inr (Or.inr (Or.inr (Or.inr (Or.inr (Or.inr (Or.inr ⟨qa4.mpr (by omega), qb4.mpr (by omega), (by rw [(hcx1 (by omega)).1, (hcx1 (by omega)).2, (hdy1 (by omega)).1, (hdy1 (by omega)).2]; exact hcf)⟩)))))))
            · skip
              show own_G p e below s _ _ _ (T39.setTop (mkF m 430 #[.val (.int x0), .val (.int x1), .val (.int x2), .val (.int x3), .val (.int x4), .val (.int x5), .val (.int (Int32.ofNat ta)), .val (.int (Int32.ofNat ub)), .val (.int B8), .val (.int B9), .val (.int B10), .val (.int B11), .val (.int B12), .val (.int B13), .val (.int B14), .val (.int B15), .val (.int B16), .val (.int B17), .val (.int x0), .val (.int x1), .val (.int P20), .val (.int P21), .val (.int (Int32.ofNat kA)), .val (.int (Int32.ofNat kB)), .val (.ref b13), .val (.ref b15), .unset] [(.int (0 : Int32))]))
              refine own_if_eqY X39 hx (pc := 430) (pc' := 437) (hb hby at_430) (by decide) (by decide) (by decide) ?_
              exact J38 _ _ (X39.more (by decide) (by decide)) N39 e39 (fun z => hcf (by have q := z.2.2; rw [(hcx1 (by omega)).1, (hcx1 (by omega)).2, (hdy1 (by omega)).1, (hdy1 (by omega)).2] at q; exact q))
      intro T38 lo38 X38 N38 e38 hn11
      show own_G p e below s _ _ _ (T38.setTop (mkF m 437 #[.val (.int x0), .val (.int x1), .val (.int x2), .val (.int x3), .val (.int x4), .val (.int x5), .val (.int (Int32.ofNat ta)), .val (.int (Int32.ofNat ub)), .val (.int B8), .val (.int B9), .val (.int B10), .val (.int B11), .val (.int B12), .val (.int B13), .val (.int B14), .val (.int B15), .val (.int B16), .val (.int B17), .val (.int x0), .val (.int x1), .val (.int P20), .val (.int P21), .val (.int (Int32.ofNat kA)), .val (.int (Int32.ofNat kB)), .val (.ref b13), .val (.ref b15), .unset] []))
      have hD : ¬ (own_D B14 B17 B12 B13 B15 B16 (own_C (Int32.ofNat ta) (Int32.ofNat ub) c0 c1 w0 w1 d0 d1 v0 v1)) := own_Dno hc301 hc306 hbr hrb (fun q => q.elim hn00 (fun q => q.elim hn01 (fun q => q.elim hn10 hn11)))
      show own_G p e below s _ _ _ (T38.setTop (mkF m 437 #[.val (.int x0), .val (.int x1), .val (.int x2), .val (.int x3), .val (.int x4), .val (.int x5), .val (.int (Int32.ofNat ta)), .val (.int (Int32.ofNat ub)), .val (.int B8), .val (.int B9), .val (.int B10), .val (.int B11), .val (.int B12), .val (.int B13), .val (.int B14), .val (.int B15), .val (.int B16), .val (.int B17), .val (.int x0), .val (.int x1), .val (.int P20), .val (.int P21), .val (.int (Int32.ofNat kA)), .val (.int (Int32.ofNat kB)), .val (.ref b13), .val (.ref b15), .unset] []))
      refine own_go (fun _ kk_ => XS.iconst X38.here hx rfl (hb hby at_437) kk_) ?_
      show own_G p e below s _ _ _ (T38.setTop (mkF m 438 #[.val (.int x0), .val (.int x1), .val (.int x2), .val (.int x3), .val (.int x4), .val (.int x5), .val (.int (Int32.ofNat ta)), .val (.int (Int32.ofNat ub)), .val (.int B8), .val (.int B9), .val (.int B10), .val (.int B11), .val (.int B12), .val (.int B13), .val (.int B14), .val (.int B15), .val (.int B16), .val (.int B17), .val (.int x0), .val (.int x1), .val (.int P20), .val (.int P21), .val (.int (Int32.ofNat kA)), .val (.int (Int32.ofNat kB)), .val (.ref b13), .val (.ref b15), .unset] [(.int (0 : Int32))]))
      refine own_go (fun _ kk_ => XS.istore X38.here hx rfl (hb hby at_438) rfl (l' := #[.val (.int x0), .val (.int x1), .val (.int x2), .val (.int x3), .val (.int x4), .val (.int x5), .val (.int (Int32.ofNat ta)), .val (.int (Int32.ofNat ub)), .val (.int B8), .val (.int B9), .val (.int B10), .val (.int B11), .val (.int B12), .val (.int B13), .val (.int B14), .val (.int B15), .val (.int B16), .val (.int B17), .val (.int x0), .val (.int x1), .val (.int P20), .val (.int P21), .val (.int (Int32.ofNat kA)), .val (.int (Int32.ofNat kB)), .val (.ref b13), .val (.ref b15), .val (.int (0 : Int32))]) rfl kk_) ?_
      show own_G p e below s _ _ _ (T38.setTop (mkF m 440 #[.val (.int x0), .val (.int x1), .val (.int x2), .val (.int x3), .val (.int x4), .val (.int x5), .val (.int (Int32.ofNat ta)), .val (.int (Int32.ofNat ub)), .val (.int B8), .val (.int B9), .val (.int B10), .val (.int B11), .val (.int B12), .val (.int B13), .val (.int B14), .val (.int B15), .val (.int B16), .val (.int B17), .val (.int x0), .val (.int x1), .val (.int P20), .val (.int P21), .val (.int (Int32.ofNat kA)), .val (.int (Int32.ofNat kB)), .val (.ref b13), .val (.ref b15), .val (.int (0 : Int32))] []))
      refine own_go (fun _ kk_ => XS.aload X38.here hx rfl (hb hby at_440) rfl rfl kk_) ?_
      show own_G p e below s _ _ _ (T38.setTop (mkF m 442 #[.val (.int x0), .val (.int x1), .val (.int x2), .val (.int x3), .val (.int x4), .val (.int x5), .val (.int (Int32.ofNat ta)), .val (.int (Int32.ofNat ub)), .val (.int B8), .val (.int B9), .val (.int B10), .val (.int B11), .val (.int B12), .val (.int B13), .val (.int B14), .val (.int B15), .val (.int B16), .val (.int B17), .val (.int x0), .val (.int x1), .val (.int P20), .val (.int P21), .val (.int (Int32.ofNat kA)), .val (.int (Int32.ofNat kB)), .val (.ref b13), .val (.ref b15), .val (.int (0 : Int32))] [(.ref b13)]))
      refine own_go (fun _ kk_ => XS.aload X38.here hx rfl (hb hby at_442) rfl rfl kk_) ?_
      show own_G p e below s _ _ _ (T38.setTop (mkF m 444 #[.val (.int x0), .val (.int x1), .val (.int x2), .val (.int x3), .val (.int x4), .val (.int x5), .val (.int (Int32.ofNat ta)), .val (.int (Int32.ofNat ub)), .val (.int B8), .val (.int B9), .val (.int B10), .val (.int B11), .val (.int B12), .val (.int B13), .val (.int B14), .val (.int B15), .val (.int B16), .val (.int B17), .val (.int x0), .val (.int x1), .val (.int P20), .val (.int P21), .val (.int (Int32.ofNat kA)), .val (.int (Int32.ofNat kB)), .val (.ref b13), .val (.ref b15), .val (.int (0 : Int32))] [(.ref b15), (.ref b13)]))
      obtain ⟨cq40, kq40, q40a, q40b, q40c⟩ := isOf hZ e38 FPxf5.1.1
      obtain ⟨_, _, ⟨T40, L40, k40, n40⟩, -, X40, ⟨Lc40, hQ40, l40, y40, z40⟩, st40⟩ := X38.virtualBack hx (y := (⟨"com/example/relyguard/relyguard/Footprint", "dependsOn", "(Lcom/example/relyguard/relyguard/Footprint;)Z"⟩ : MethodName)) (z := (⟨"com/example/relyguard/relyguard/Footprint", "dependsOn", "(Lcom/example/relyguard/relyguard/Footprint;)Z"⟩ : MethodName)) hown (mvT hZ (hw _ (List.mem_of_getElem? (i := 69) rfl))) (mvT hZ (hw _ (List.mem_of_getElem? (i := 70) rfl))) (notFace_of_selects (args := #[]) (mvT hZ (hw _ (List.mem_of_getElem? (i := 72) rfl)))) (mvT hZ (hw _ (List.mem_of_getElem? (i := 72) rfl))) (mvT hZ (hw _ (List.mem_of_getElem? (i := 71) rfl))) (by decide) (backOf (W := 0) (rmD l Z a0 hw [] b13 ca_x wa_x b15 ca_y wa_y kc_x kw_x kc_y kw_y c0 c1 w0 w1 B12 B13 B14 d0 d1 v0 v1 B15 B16 B17 ta ub hf5 n0 Zf5 hta hub FPxf5 FPyf5) hZ (hw _ (List.mem_of_getElem? (i := 73) rfl)) (hw _ (List.mem_of_getElem? (i := 9) rfl)) (by decide) (by decide)) q40a q40c (g := (mkF m 444 #[.val (.int x0), .val (.int x1), .val (.int x2), .val (.int x3), .val (.int x4), .val (.int x5), .val (.int (Int32.ofNat ta)), .val (.int (Int32.ofNat ub)), .val (.int B8), .val (.int B9), .val (.int B10), .val (.int B11), .val (.int B12), .val (.int B13), .val (.int B14), .val (.int B15), .val (.int B16), .val (.int B17), .val (.int x0), .val (.int x1), .val (.int P20), .val (.int P21), .val (.int (Int32.ofNat kA)), .val (.int (Int32.ofNat kB)), .val (.ref b13), .val (.ref b15), .val (.int (0 : Int32))] [(.ref b15), (.ref b13)])) rfl (by rw [hml]; rfl) (Steps.refl _) (argsL := [(.ref b15)]) (rest := []) (lenOf pd_6 rfl) rfl (by show 2 * 0 + _ ≤ _; exact Nat.le_of_eq rfl) (hb hby at_444) (fun _ _ => ⟨rfl, e38, (by decide : 10 + 0 ≤ _), (by decide : 34 + 0 ≤ _)⟩)
      dsimp only [Pt.U, Pt.locs, Pt.cells, Pt.slots] at X40 l40 y40 z40 st40 hQ40
      subst l40 y40 z40
      obtain ⟨BD, rfl, N40q, e40, hBD⟩ := hQ40
      have N40 := Fr.app N38 N40q
      refine own_go (fun _ kk_ => st40.trans kk_) ?_
      obtain rfl : BD = 0 := hBD.elim (fun q => absurd q.2 hD) (fun q => q.1)
      show own_G p e below s _ _ _ (T40.setTop (mkF m 447 #[.val (.int x0), .val (.int x1), .val (.int x2), .val (.int x3), .val (.int x4), .val (.int x5), .val (.int (Int32.ofNat ta)), .val (.int (Int32.ofNat ub)), .val (.int B8), .val (.int B9), .val (.int B10), .val (.int B11), .val (.int B12), .val (.int B13), .val (.int B14), .val (.int B15), .val (.int B16), .val (.int B17), .val (.int x0), .val (.int x1), .val (.int P20), .val (.int P21), .val (.int (Int32.ofNat kA)), .val (.int (Int32.ofNat kB)), .val (.ref b13), .val (.ref b15), .val (.int (0 : Int32))] [(.int (0 : Int32))]))
      refine own_go (fun _ kk_ => XS.iload X40.here hx rfl (hb hby at_447) rfl kk_) ?_
      show own_G p e below s _ _ _ (T40.setTop (mkF m 449 #[.val (.int x0), .val (.int x1), .val (.int x2), .val (.int x3), .val (.int x4), .val (.int x5), .val (.int (Int32.ofNat ta)), .val (.int (Int32.ofNat ub)), .val (.int B8), .val (.int B9), .val (.int B10), .val (.int B11), .val (.int B12), .val (.int B13), .val (.int B14), .val (.int B15), .val (.int B16), .val (.int B17), .val (.int x0), .val (.int x1), .val (.int P20), .val (.int P21), .val (.int (Int32.ofNat kA)), .val (.int (Int32.ofNat kB)), .val (.ref b13), .val (.ref b15), .val (.int (0 : Int32))] [(.int (0 : Int32)), (.int (0 : Int32))]))
      refine own_ic_neN X40 hx (pc := 449) (hb hby at_449) (by decide) ?_
      show own_G p e below s _ _ _ (T40.setTop (mkF m 452 #[.val (.int x0), .val (.int x1), .val (.int x2), .val (.int x3), .val (.int x4), .val (.int x5), .val (.int (Int32.ofNat ta)), .val (.int (Int32.ofNat ub)), .val (.int B8), .val (.int B9), .val (.int B10), .val (.int B11), .val (.int B12), .val (.int B13), .val (.int B14), .val (.int B15), .val (.int B16), .val (.int B17), .val (.int x0), .val (.int x1), .val (.int P20), .val (.int P21), .val (.int (Int32.ofNat kA)), .val (.int (Int32.ofNat kB)), .val (.ref b13), .val (.ref b15), .val (.int (0 : Int32))] []))
      refine own_go (fun _ kk_ => XS.iconst X40.here hx rfl (hb hby at_452) kk_) ?_
      show own_G p e below s _ _ _ (T40.setTop (mkF m 453 #[.val (.int x0), .val (.int x1), .val (.int x2), .val (.int x3), .val (.int x4), .val (.int x5), .val (.int (Int32.ofNat ta)), .val (.int (Int32.ofNat ub)), .val (.int B8), .val (.int B9), .val (.int B10), .val (.int B11), .val (.int B12), .val (.int B13), .val (.int B14), .val (.int B15), .val (.int B16), .val (.int B17), .val (.int x0), .val (.int x1), .val (.int P20), .val (.int P21), .val (.int (Int32.ofNat kA)), .val (.int (Int32.ofNat kB)), .val (.ref b13), .val (.ref b15), .val (.int (0 : Int32))] [(.int (1 : Int32))]))
      refine own_go (fun _ kk_ => XS.goto X40.here hx rfl (pc0 := 453) (pc' := 457) rfl (hb hby at_453) (by decide) (by decide) kk_) ?_
      show own_G p e below s _ _ _ (T40.setTop (mkF m 457 #[.val (.int x0), .val (.int x1), .val (.int x2), .val (.int x3), .val (.int x4), .val (.int x5), .val (.int (Int32.ofNat ta)), .val (.int (Int32.ofNat ub)), .val (.int B8), .val (.int B9), .val (.int B10), .val (.int B11), .val (.int B12), .val (.int B13), .val (.int B14), .val (.int B15), .val (.int B16), .val (.int B17), .val (.int x0), .val (.int x1), .val (.int P20), .val (.int P21), .val (.int (Int32.ofNat kA)), .val (.int (Int32.ofNat kB)), .val (.ref b13), .val (.ref b15), .val (.int (0 : Int32))] [(.int (1 : Int32))]))
      exact own_retN (t := .boolean) (ht := by simp) X40 hx Bd.returns (BodyLoose.notSynchronized Bd) (hb hby at_457) e40 ⟨rfl, N40⟩ (by decide) (by decide)
theorem own_eqint {args : Array Value} {first s : State} {o : Option Outcome} {idx : List Nat} {t : Term} {k : Int32} (h : (Jvm.Cond.eq t (Jvm.Term.int k)).value args first o s idx = some true) : t.eval args first o idx s = some (.int k) := by
  obtain ⟨x, y, h1, h2, h3, -⟩ := cmp_v (Or.inl h)
  cases x with
  | int z => exact h1.trans (congrArg (fun q => some (Value.int q)) (gotT (Cond.eq_ints h1 rfl) h))
  | _ => simp [Cond.value, h1, Term.eval] at h
set_option maxRecDepth 65536 in
set_option maxHeartbeats 40000000 in
theorem comes_1 {Post : Tables → Env → Array Value → State → Outcome → State → Prop} (hpost : ∀ tb e args s v u, (limb_1_1.after args s (.returned v) u = true ∧ limb_1_2.after args s (.returned v) u = true ∧ True) → FrameEnd s (.returned v) u (Jvm.fieldLocs frame_1_writes args s ++ Jvm.arrayLocs frame_1_arrays args s ++ Jvm.staticLocs frame_1_statics s) 32 192 → Post tb e args s (.returned v) u) :
    ArmFor flags0 classFile x code maxLocals ret World_1 tables_1 room_1 Calls_1 rest_1 Pre_1 Post := by
  intro l hfl _ _ p e ha hc hk s m args below hf hA hF happ hP
  obtain ⟨hcalls, hrest, hpre⟩ := hP
  obtain ⟨-, -, -, hnamed, -, -, -, hat⟩ := (Spec.applies_iff hf).mp happ
  obtain ⟨hg, hn⟩ := and_e (Cond.before_iff.mp (show (Jvm.Cond.and given_1 narrow_1).before args s = true from hpre))
  obtain ⟨hct, hr0⟩ := and_e hg
  obtain ⟨hv0, hr1⟩ := and_e hr0
  obtain ⟨hv1, hr2⟩ := and_e hr1
  obtain ⟨hv2, hr3⟩ := and_e hr2
  obtain ⟨hv3, hr4⟩ := and_e hr3
  obtain ⟨hv4, hr5⟩ := and_e hr4
  obtain ⟨w0, w1, w2, w3, w4, w5, rfl⟩ : ∃ w0 w1 w2 w3 w4 w5 : Value, args = #[w0, w1, w2, w3, w4, w5] := by
    have hs : args.size = 6 := by simpa [Cond.value, given_1] using hct
    obtain ⟨L⟩ := args
    match L, hs with
    | [w0, w1, w2, w3, w4, w5], _ => exact ⟨w0, w1, w2, w3, w4, w5, rfl⟩
  have hw := fun d (hd : d ∈ tables_1) => atoms_spec (ws := Jvm.Cond.code x code maxLocals ret :: tables_1) hat d (List.mem_cons_of_mem _ hd)
  have hfit : Fit s := fun {y c} hc i hi => by
    obtain ⟨ha, rfl⟩ := Array.getElem?_eq_some_iff.mp hc
    have q := List.all_eq_true.mp ((Array.all_eq_true_iff_forall_mem.mp hF) _ (Array.getElem_mem ha)) i (List.mem_range.mpr hi)
    simpa [Array.getElem?_eq_getElem hi] using q
  obtain ⟨hsets, hown0⟩ := atoms_of _ (rest_1_c_eq ▸ (show rest_1_c.before _ s = true from hrest))
  obtain ⟨i0, ei0⟩ := is_v hv0
  obtain rfl : w0 = (.int i0) := Option.some.inj ei0
  obtain ⟨i1, ei1⟩ := is_v hv1
  obtain rfl : w1 = (.int i1) := Option.some.inj ei1
  obtain ⟨i2, ei2⟩ := is_v hv2
  obtain rfl : w2 = (.int i2) := Option.some.inj ei2
  obtain ⟨i3, ei3⟩ := is_v hv3
  obtain rfl : w3 = (.int i3) := Option.some.inj ei3
  obtain ⟨i4, ei4⟩ := is_v hv4
  obtain rfl : w4 = (.int i4) := Option.some.inj ei4
  obtain ⟨i5, ei5⟩ := is_v hr5
  obtain rfl : w5 = (.int i5) := Option.some.inj ei5
  have S_a := Sta.start (own_eqint (Cond.before_iff.mp (hsets _ (List.mem_of_getElem? (i := 2) rfl)))) (Or.inl (hsets _ (List.mem_of_getElem? (i := 1) rfl)))
  obtain ⟨n, o, h1, h2, h3, _, L, rfl, ⟨rfl, N⟩, hq⟩ := rm0 l s _ hw tables_1 i0 i1 i2 i3 i4 i5 s.heap s.heap.size (Nat.le_refl _) (Old.start s) S_a p e ha hc hk s m _ below hf ((Spec.applies_iff_loose hf).mp happ).1 ⟨rfl, State.Warmed39.refl s, rfl⟩ trivial
  refine ⟨n, _, h1, h2, h3, hpost _ _ _ _ _ _ ⟨Cond.after_iff.mpr rfl, Cond.after_iff.mpr (eq_i res_at (Term.int_eval (1)) rfl), trivial⟩ ⟨hq.1, hq.2.1, (hq.2.2.sift fun y hy => Or.inr (N y hy)).mono (by decide) (by decide)⟩⟩
theorem main_1_1 : Claimed_1_1 := comes_1 fun _ _ _ _ _ _ h hF => ⟨h.1, hF⟩
theorem main_1_2 : Claimed_1_2 := comes_1 fun _ _ _ _ _ _ h hF => ⟨h.2.1, hF⟩
end Jvm.Pilot.@@N@@
namespace Jvm.Pilot.@@N@@
open Jvm Jvm.ClassFile Sem Op Lib Jvm.Free Jvm.Stand Jvm.Pilot.@@N@@.Jvm.D
/-! MADE BY PROGRAM (witnessworld.py) out of the Statement's table words and the real class files: 14 classes; the members and pool entries that the words name. The judged class is class 1, her method 4. -/
namespace start1
open Jvm.ClassFile
def u (s : String) : CpInfo := .utf8 (stringToUtf16 s)
/-- a pool by its gaps: so many unusable entries, then the entry; so many at the end -/
def gap : Nat → List CpInfo → List CpInfo
  | 0, r => r
  | n + 1, r => .unusable :: gap n r
def poolList (es : List (Nat × CpInfo)) (last : Nat) : List CpInfo := es.foldr (fun e r => gap e.1 (e.2 :: r)) (gap last [])
def pool (es : List (Nat × CpInfo)) (last : Nat) : Array CpInfo := ⟨poolList es last⟩
def fileOf (pool : Array CpInfo) (this : Nat) (attrs : Array Attribute := #[]) (ms : Array MethodInfo := #[]) (fl : Nat := 33) (sup : Nat := 0) (ifs : Array Nat := #[]) (fds : Array FieldInfo := #[]) : ClassFile where
  minorVersion := 0
  majorVersion := 65
  constantPool := pool
  accessFlags := fl
  thisClass := this
  superClass := sup
  interfaces := ifs
  fields := fds
  methods := ms
  attributes := attrs
def plain (name : String) (sup : Option ClassId) : Class where
  name := name
  kind := .ordinary
  loader := none
  accessFlags := 33
  super := sup
  interfaces := #[]
  cf := none
  fields := #[]
  methods := #[]
  instanceTypes := #[]
  staticTypes := #[]
  resolved := #[]
  callSites := []
  init := .initialized
  statics := none
  mirror := none

def pool0 : Array CpInfo := pool [(5, u "<init>"), (0, u "()V"), (1, .class_ 10), (1, u "java/lang/Object")] 113

def k0c0 : Code := { maxStack := 0, maxLocals := 1, code := object_method_1_code, exceptionTable := #[], attributes := #[] }
def k0m0 : Method := { name := "<init>", desc := "()V", sig := { parameters := [], returnType := none }, accessFlags := 1, code := some k0c0 }
/-- java/lang/Object -/
def k0 : Class := { plain "java/lang/Object" none with
  accessFlags := 33
  interfaces := #[]
  cf := some (fileOf pool0 8 #[] #[{ accessFlags := 1, nameIndex := 5, descriptorIndex := 6, attributes := #[] }] 33 0 #[] #[])
  fields := #[]
  methods := #[k0m0]
  instanceTypes := #[]
  staticTypes := #[]
  resolved := Array.replicate 124 none
  statics := none }

def pool1 : Array CpInfo := pool [(2, .class_ 4), (1, u "java/lang/Object"), (0, u "<init>"), (0, u "()V"), (0, .methodref 8 9), (0, .class_ 10), (0, .nameAndType 11 12), (0, u "com/example/relyguard/relyguard/FootprintDependsOnPinLaw"), (0, u "bit"), (0, u "(II)Z"), (0, .methodref 8 14), (0, .nameAndType 15 16), (0, u "pick"), (0, u "(IIII)I"), (0, .class_ 18), (0, u "com/example/relyguard/relyguard/Footprint"), (0, .methodref 17 20), (0, .nameAndType 5 21), (0, u "(I)V"), (0, .methodref 17 23), (0, .nameAndType 24 25), (0, u "touch"), (0, u "(IZ)V"), (0, .methodref 17 27), (0, .nameAndType 28 6), (0, u "callBegan"), (0, .methodref 17 30), (0, .nameAndType 31 6), (0, u "callReturned"), (0, .methodref 17 33), (0, .nameAndType 34 6), (0, u "endsRun"), (0, .methodref 8 36), (0, .nameAndType 37 38), (0, u "conflict"), (0, u "(IZIZ)Z"), (0, .methodref 17 40), (0, .nameAndType 41 42), (0, u "dependsOn"), (0, u "(Lcom/example/relyguard/relyguard/Footprint;)Z"), (3, u "law"), (0, u "(IIIIII)Z")] 2

def k1m0 : Method := { name := "<init>", desc := "()V", sig := { parameters := [], returnType := none }, accessFlags := 1, code := none }
def k1c1 : Code := { maxStack := 2, maxLocals := 2, code := method_2_code, exceptionTable := #[], attributes := #[] }
def k1m1 : Method := { name := "bit", desc := "(II)Z", sig := { parameters := [.int, .int], returnType := some .boolean }, accessFlags := 10, code := some k1c1 }
def k1c2 : Code := { maxStack := 2, maxLocals := 4, code := method_3_code, exceptionTable := #[], attributes := #[] }
def k1m2 : Method := { name := "conflict", desc := "(IZIZ)Z", sig := { parameters := [.int, .boolean, .int, .boolean], returnType := some .boolean }, accessFlags := 10, code := some k1c2 }
def k1c3 : Code := { maxStack := 2, maxLocals := 4, code := method_4_code, exceptionTable := #[], attributes := #[] }
def k1m3 : Method := { name := "pick", desc := "(IIII)I", sig := { parameters := [.int, .int, .int, .int], returnType := some .int }, accessFlags := 10, code := some k1c3 }
def k1c4 : Code := { maxStack := 4, maxLocals := 27, code := code, exceptionTable := #[], attributes := #[] }
def k1m4 : Method := { name := "law", desc := "(IIIIII)Z", sig := { parameters := [.int, .int, .int, .int, .int, .int], returnType := some .boolean }, accessFlags := 9, code := some k1c4 }
/-- com/example/relyguard/relyguard/FootprintDependsOnPinLaw -/
def k1 : Class := { plain "com/example/relyguard/relyguard/FootprintDependsOnPinLaw" (some 0) with
  accessFlags := 49
  interfaces := #[]
  cf := some (fileOf pool1 8 #[] #[{ accessFlags := 1, nameIndex := 5, descriptorIndex := 6, attributes := #[] }, { accessFlags := 10, nameIndex := 11, descriptorIndex := 12, attributes := #[] }, { accessFlags := 10, nameIndex := 37, descriptorIndex := 38, attributes := #[] }, { accessFlags := 10, nameIndex := 15, descriptorIndex := 16, attributes := #[] }, { accessFlags := 9, nameIndex := 46, descriptorIndex := 47, attributes := #[] }] 49 2 #[] #[])
  fields := #[]
  methods := #[k1m0, k1m1, k1m2, k1m3, k1m4]
  instanceTypes := #[]
  staticTypes := #[]
  resolved := Array.replicate 50 none
  statics := none }

def pool2 : Array CpInfo := pool [(1, .methodref 2 3), (0, .class_ 4), (0, .nameAndType 5 6), (0, u "java/lang/Object"), (0, u "<init>"), (0, u "()V"), (0, .class_ 8), (0, u "java/util/BitSet"), (0, .methodref 7 3), (0, .fieldref 11 12), (0, .class_ 13), (0, .nameAndType 14 15), (0, u "com/example/relyguard/relyguard/Footprint"), (0, u "movers"), (0, u "Ljava/util/BitSet;"), (0, .fieldref 11 17), (0, .nameAndType 18 19), (0, u "cells"), (0, u "[I"), (0, .fieldref 11 21), (0, .nameAndType 22 23), (0, u "writes"), (0, u "[Z"), (0, .fieldref 11 25), (0, .nameAndType 26 27), (0, u "thread"), (0, u "I"), (0, .methodref 7 29), (0, .nameAndType 30 31), (0, u "set"), (0, u "(I)V"), (0, .fieldref 11 33), (0, .nameAndType 34 27), (0, u "touched"), (11, u "waited"), (0, u "Z"), (0, .fieldref 11 49), (0, .nameAndType 50 47), (0, u "begins"), (0, .fieldref 11 52), (0, .nameAndType 53 47), (0, u "returns"), (0, .fieldref 11 55), (0, .nameAndType 56 47), (0, u "endsRun"), (10, u "touch"), (0, u "(IZ)V"), (3, u "callBegan"), (0, u "callReturned"), (6, u "(Lcom/example/relyguard/relyguard/Footprint;)Z"), (0, u "dependsOn")] 2

def k2c0 : Code := { maxStack := 3, maxLocals := 2, code := prog_47_method_1_code, exceptionTable := #[], attributes := #[] }
def k2m0 : Method := { name := "<init>", desc := "(I)V", sig := { parameters := [.int], returnType := none }, accessFlags := 0, code := some k2c0 }
def k2c1 : Code := { maxStack := 4, maxLocals := 3, code := prog_47_method_2_code, exceptionTable := #[], attributes := #[] }
def k2m1 : Method := { name := "touch", desc := "(IZ)V", sig := { parameters := [.int, .boolean], returnType := none }, accessFlags := 0, code := some k2c1 }
def k2c2 : Code := { maxStack := 2, maxLocals := 1, code := prog_47_method_5_code, exceptionTable := #[], attributes := #[] }
def k2m2 : Method := { name := "callBegan", desc := "()V", sig := { parameters := [], returnType := none }, accessFlags := 0, code := some k2c2 }
def k2c3 : Code := { maxStack := 2, maxLocals := 1, code := prog_47_method_6_code, exceptionTable := #[], attributes := #[] }
def k2m3 : Method := { name := "callReturned", desc := "()V", sig := { parameters := [], returnType := none }, accessFlags := 0, code := some k2c3 }
def k2c4 : Code := { maxStack := 2, maxLocals := 1, code := prog_47_method_8_code, exceptionTable := #[], attributes := #[] }
def k2m4 : Method := { name := "endsRun", desc := "()V", sig := { parameters := [], returnType := none }, accessFlags := 0, code := some k2c4 }
def k2c5 : Code := { maxStack := 3, maxLocals := 4, code := prog_47_method_13_code, exceptionTable := #[], attributes := #[] }
def k2m5 : Method := { name := "dependsOn", desc := "(Lcom/example/relyguard/relyguard/Footprint;)Z", sig := { parameters := [(.object "com/example/relyguard/relyguard/Footprint")], returnType := some .boolean }, accessFlags := 0, code := some k2c5 }
/-- com/example/relyguard/relyguard/Footprint -/
def k2 : Class := { plain "com/example/relyguard/relyguard/Footprint" (some 0) with
  accessFlags := 48
  interfaces := #[]
  cf := some (fileOf pool2 11 #[] #[{ accessFlags := 0, nameIndex := 5, descriptorIndex := 31, attributes := #[] }, { accessFlags := 0, nameIndex := 67, descriptorIndex := 68, attributes := #[] }, { accessFlags := 0, nameIndex := 72, descriptorIndex := 6, attributes := #[] }, { accessFlags := 0, nameIndex := 73, descriptorIndex := 6, attributes := #[] }, { accessFlags := 0, nameIndex := 56, descriptorIndex := 6, attributes := #[] }, { accessFlags := 0, nameIndex := 81, descriptorIndex := 80, attributes := #[] }] 48 2 #[] #[{ accessFlags := 18, nameIndex := 26, descriptorIndex := 27, attributes := #[] }, { accessFlags := 18, nameIndex := 14, descriptorIndex := 15, attributes := #[] }, { accessFlags := 2, nameIndex := 18, descriptorIndex := 19, attributes := #[] }, { accessFlags := 2, nameIndex := 22, descriptorIndex := 23, attributes := #[] }, { accessFlags := 2, nameIndex := 34, descriptorIndex := 27, attributes := #[] }, { accessFlags := 2, nameIndex := 50, descriptorIndex := 47, attributes := #[] }, { accessFlags := 2, nameIndex := 53, descriptorIndex := 47, attributes := #[] }, { accessFlags := 2, nameIndex := 46, descriptorIndex := 47, attributes := #[] }, { accessFlags := 2, nameIndex := 56, descriptorIndex := 47, attributes := #[] }])
  fields := #[{ name := "thread", type := .int, accessFlags := 18, slot := 0, constantValue := 0 }, { name := "movers", type := (.object "java/util/BitSet"), accessFlags := 18, slot := 1, constantValue := 0 }, { name := "cells", type := (.array .int), accessFlags := 2, slot := 2, constantValue := 0 }, { name := "writes", type := (.array .boolean), accessFlags := 2, slot := 3, constantValue := 0 }, { name := "touched", type := .int, accessFlags := 2, slot := 4, constantValue := 0 }, { name := "begins", type := .boolean, accessFlags := 2, slot := 5, constantValue := 0 }, { name := "returns", type := .boolean, accessFlags := 2, slot := 6, constantValue := 0 }, { name := "waited", type := .boolean, accessFlags := 2, slot := 7, constantValue := 0 }, { name := "endsRun", type := .boolean, accessFlags := 2, slot := 8, constantValue := 0 }]
  methods := #[k2m0, k2m1, k2m2, k2m3, k2m4, k2m5]
  instanceTypes := #[.int, (.object "java/util/BitSet"), (.array .int), (.array .boolean), .int, .boolean, .boolean, .boolean, .boolean]
  staticTypes := #[]
  resolved := Array.replicate 84 none
  statics := none }

def pool3 : Array CpInfo := pool [(1, .class_ 2), (0, u "java/lang/Cloneable"), (0, .class_ 4), (0, u "java/lang/Object")] 2

/-- java/lang/Cloneable -/
def k3 : Class := { plain "java/lang/Cloneable" (some 0) with
  accessFlags := 1537
  interfaces := #[]
  cf := some (fileOf pool3 1 #[] #[] 1537 3 #[] #[])
  fields := #[]
  methods := #[]
  instanceTypes := #[]
  staticTypes := #[]
  resolved := Array.replicate 7 none
  statics := none }

def pool4 : Array CpInfo := pool [(1, .class_ 2), (0, u "java/io/Serializable"), (0, .class_ 4), (0, u "java/lang/Object")] 2

/-- java/io/Serializable -/
def k4 : Class := { plain "java/io/Serializable" (some 0) with
  accessFlags := 1537
  interfaces := #[]
  cf := some (fileOf pool4 1 #[] #[] 1537 3 #[] #[])
  fields := #[]
  methods := #[]
  instanceTypes := #[]
  staticTypes := #[]
  resolved := Array.replicate 7 none
  statics := none }

def pool5 : Array CpInfo := pool [(1, .class_ 2), (0, u "java/util/BitSet"), (0, .fieldref 1 4), (0, .nameAndType 5 6), (0, u "$assertionsDisabled"), (0, u "Z"), (0, .fieldref 1 8), (0, .nameAndType 9 10), (0, u "wordsInUse"), (0, u "I"), (0, .fieldref 1 12), (0, .nameAndType 13 14), (0, u "words"), (0, u "[J"), (3, .nameAndType 19 20), (0, u "<init>"), (0, u "()V"), (0, .methodref 22 18), (0, .class_ 23), (0, u "java/lang/Object"), (0, .fieldref 1 25), (0, .nameAndType 26 6), (0, u "sizeIsSticky"), (0, .methodref 1 28), (0, .nameAndType 29 30), (0, u "initWords"), (0, u "(I)V"), (21, .methodref 1 53), (0, .nameAndType 54 55), (0, u "wordIndex"), (0, u "(I)I"), (0, .methodref 1 57), (0, .nameAndType 58 20), (0, u "checkInvariants"), (80, .methodref 1 140), (0, .nameAndType 141 30), (0, u "ensureCapacity"), (13, .methodref 1 156), (0, .nameAndType 157 30), (0, u "expandTo"), (11, u "set"), (99, .class_ 270), (0, u "java/util/BitSet$1BitSetSpliterator"), (22, u "serialPersistentFields"), (0, u "[Ljava/io/ObjectStreamField;"), (0, .class_ 296), (0, u "java/lang/Cloneable"), (0, .class_ 298), (0, u "java/io/Serializable"), (0, u "ADDRESS_BITS_PER_WORD"), (2, u "BITS_PER_WORD"), (1, u "BIT_INDEX_MASK"), (1, u "WORD_MASK"), (0, u "J"), (0, u "serialVersionUID")] 108

def k5c0 : Code := { maxStack := 2, maxLocals := 1, code := jdk_92_method_1_code, exceptionTable := #[], attributes := #[] }
def k5m0 : Method := { name := "wordIndex", desc := "(I)I", sig := { parameters := [.int], returnType := some .int }, accessFlags := 10, code := some k5c0 }
def k5c1 : Code := { maxStack := 4, maxLocals := 1, code := jdk_92_method_2_code, exceptionTable := #[], attributes := #[] }
def k5m1 : Method := { name := "checkInvariants", desc := "()V", sig := { parameters := [], returnType := none }, accessFlags := 2, code := some k5c1 }
def k5c2 : Code := { maxStack := 2, maxLocals := 1, code := jdk_92_method_4_code, exceptionTable := #[], attributes := #[] }
def k5m2 : Method := { name := "<init>", desc := "()V", sig := { parameters := [], returnType := none }, accessFlags := 1, code := some k5c2 }
def k5c3 : Code := { maxStack := 3, maxLocals := 2, code := jdk_92_method_6_code, exceptionTable := #[], attributes := #[] }
def k5m3 : Method := { name := "initWords", desc := "(I)V", sig := { parameters := [.int], returnType := none }, accessFlags := 2, code := some k5c3 }
def k5c4 : Code := { maxStack := 3, maxLocals := 3, code := jdk_92_method_14_code, exceptionTable := #[], attributes := #[] }
def k5m4 : Method := { name := "ensureCapacity", desc := "(I)V", sig := { parameters := [.int], returnType := none }, accessFlags := 2, code := some k5c4 }
def k5c5 : Code := { maxStack := 2, maxLocals := 3, code := jdk_92_method_15_code, exceptionTable := #[], attributes := #[] }
def k5m5 : Method := { name := "expandTo", desc := "(I)V", sig := { parameters := [.int], returnType := none }, accessFlags := 2, code := some k5c5 }
def k5c6 : Code := { maxStack := 7, maxLocals := 3, code := jdk_92_method_19_code, exceptionTable := #[], attributes := #[] }
def k5m6 : Method := { name := "set", desc := "(I)V", sig := { parameters := [.int], returnType := none }, accessFlags := 1, code := some k5c6 }
/-- java/util/BitSet -/
def k5 : Class := { plain "java/util/BitSet" (some 0) with
  accessFlags := 33
  interfaces := #[3, 4]
  cf := some (fileOf pool5 1 #[.nestMembers #[269]] #[{ accessFlags := 10, nameIndex := 54, descriptorIndex := 55, attributes := #[] }, { accessFlags := 2, nameIndex := 58, descriptorIndex := 20, attributes := #[] }, { accessFlags := 1, nameIndex := 19, descriptorIndex := 20, attributes := #[] }, { accessFlags := 2, nameIndex := 29, descriptorIndex := 30, attributes := #[] }, { accessFlags := 2, nameIndex := 141, descriptorIndex := 30, attributes := #[] }, { accessFlags := 2, nameIndex := 157, descriptorIndex := 30, attributes := #[] }, { accessFlags := 1, nameIndex := 169, descriptorIndex := 30, attributes := #[] }] 33 22 #[295, 297] #[{ accessFlags := 26, nameIndex := 299, descriptorIndex := 10, attributes := #[] }, { accessFlags := 26, nameIndex := 302, descriptorIndex := 10, attributes := #[] }, { accessFlags := 26, nameIndex := 304, descriptorIndex := 10, attributes := #[] }, { accessFlags := 26, nameIndex := 306, descriptorIndex := 307, attributes := #[] }, { accessFlags := 26, nameIndex := 293, descriptorIndex := 294, attributes := #[] }, { accessFlags := 2, nameIndex := 13, descriptorIndex := 14, attributes := #[] }, { accessFlags := 130, nameIndex := 9, descriptorIndex := 10, attributes := #[] }, { accessFlags := 130, nameIndex := 26, descriptorIndex := 6, attributes := #[] }, { accessFlags := 26, nameIndex := 308, descriptorIndex := 307, attributes := #[] }, { accessFlags := 4120, nameIndex := 5, descriptorIndex := 6, attributes := #[] }])
  fields := #[{ name := "ADDRESS_BITS_PER_WORD", type := .int, accessFlags := 26, slot := 0, constantValue := 0 }, { name := "BITS_PER_WORD", type := .int, accessFlags := 26, slot := 1, constantValue := 0 }, { name := "BIT_INDEX_MASK", type := .int, accessFlags := 26, slot := 2, constantValue := 0 }, { name := "WORD_MASK", type := .long, accessFlags := 26, slot := 3, constantValue := 0 }, { name := "serialPersistentFields", type := (.array (.object "java/io/ObjectStreamField")), accessFlags := 26, slot := 4, constantValue := 0 }, { name := "words", type := (.array .long), accessFlags := 2, slot := 0, constantValue := 0 }, { name := "wordsInUse", type := .int, accessFlags := 130, slot := 1, constantValue := 0 }, { name := "sizeIsSticky", type := .boolean, accessFlags := 130, slot := 2, constantValue := 0 }, { name := "serialVersionUID", type := .long, accessFlags := 26, slot := 5, constantValue := 0 }, { name := "$assertionsDisabled", type := .boolean, accessFlags := 4120, slot := 6, constantValue := 0 }]
  methods := #[k5m0, k5m1, k5m2, k5m3, k5m4, k5m5, k5m6]
  instanceTypes := #[(.array .long), .int, .boolean]
  staticTypes := #[.int, .int, .int, .long, (.array (.object "java/io/ObjectStreamField")), .long, .boolean]
  resolved := Array.replicate 417 none
  statics := some 0 }

/-- the primitive boolean -/
def k6 : Class := { plain "boolean" none with kind := .primitive 'Z', accessFlags := 0x411 }
/-- [Z -/
def k7 : Class := { plain "[Z" (some 0) with kind := .array 6 .boolean, interfaces := #[3, 4], accessFlags := 1041 }

/-- the primitive byte -/
def k8 : Class := { plain "byte" none with kind := .primitive 'B', accessFlags := 0x411 }
/-- [B -/
def k9 : Class := { plain "[B" (some 0) with kind := .array 8 .byte, interfaces := #[3, 4], accessFlags := 1041 }

/-- the primitive int -/
def k10 : Class := { plain "int" none with kind := .primitive 'I', accessFlags := 0x411 }
/-- [I -/
def k11 : Class := { plain "[I" (some 0) with kind := .array 10 .int, interfaces := #[3, 4], accessFlags := 1041 }

/-- the primitive long -/
def k12 : Class := { plain "long" none with kind := .primitive 'J', accessFlags := 0x411 }
/-- [J -/
def k13 : Class := { plain "[J" (some 0) with kind := .array 12 .long, interfaces := #[3, 4], accessFlags := 1041 }

def heap : Heap := #[{ cls := 5, slots := #[.int 0, .int 0, .int 0, .long 0, .null, .long 0, .int 1], vm := .statics 5 }]
def classes : Array Class := #[k0, k1, k2, k3, k4, k5, k6, k7, k8, k9, k10, k11, k12, k13]
def interned : List (Array UInt16 × Addr) := []
def slotsUsed : Nat := 7
def theMethod : MethodId := ⟨1, 4⟩
def args0 : Array Value := #[.int 5, .int 6, .int 7, .int 8, .int 4, .int 9]
def aboutOver (below : List Frame) : State where
  vm := { classes := classes, interned := interned.toArray }
  heap := heap
  slotsUsed := slotsUsed
  threads := #[{ frames := .invoking theMethod args0 :: below }]
def below0 : List Frame := [.native { method := ⟨0, 0⟩, args := #[] }]
def about1 : State := aboutOver below0
def p0 : Program := .bare "" "" ""
def e0 : Env := launch0.env 0 0 0
theorem w_frames : about1.frames = Frame.invoking theMethod args0 :: below0 := rfl
set_option maxRecDepth 65536 in
theorem w_args : argsFit about1.vm theMethod args0 = true := by decide +kernel
set_option maxRecDepth 65536 in
theorem w_heap : heapFits about1 = true := by decide +kernel
set_option maxRecDepth 65536 in
theorem w_runnable : about1.curStatus? = some .runnable := by decide +kernel
set_option maxRecDepth 65536 in
theorem w_alone : about1.alone = true := by decide +kernel
set_option maxRecDepth 65536 in
theorem w_named : about1.methodNamed? x = some theMethod := by decide +kernel
set_option maxRecDepth 65536 in
theorem w_hears : about1.hears theMethod below0 = true := by decide +kernel
set_option maxRecDepth 65536 in
theorem w_ripe : about1.ripe theMethod args0 below0 = true := by decide +kernel
theorem w_running : about1.status = .running := rfl
set_option maxRecDepth 65536 in
theorem w_room : about1.hasRoom e0.platform room_1 = true :=
  launch0.hasRoom_least _ room_1 (by decide +kernel) (by decide +kernel) (by decide +kernel) (by decide +kernel) (by decide +kernel) (by decide +kernel)
theorem allAtoms_all (ts : List Jvm.Cond) (a : Array Jvm.Value) (st : Jvm.State) : (allAtoms ts).before a st = ts.all (fun c => c.before a st) := by
  induction ts with
  | nil => rfl
  | cons c t ih =>
    show (Jvm.Cond.and c (allAtoms t)).before a st = _
    rw [Jvm.Cond.before_and, ih, List.all_cons]
def words1 : List Jvm.Cond := Jvm.Cond.code x code maxLocals ret :: tables_1
/-- a 'code' word, met by the world's own term for the bytes: nothing is compared byte by byte -/
theorem code_word {y : MethodName} {bytes : ByteArray} {mx : Nat} {rt : Option FieldType} {a : Array Value} {s : State} {m : MethodId} {meth : Method} {c : Code} (h1 : s.methodNamed? y = some m) (h2 : s.vm.method? m = some meth) (h3 : meth.code = some c) (h4 : c.code = bytes)
    (h5 : (c.maxLocals == mx && c.exceptionTable.isEmpty && decide (c.maxStack ≤ mostOperands) && decide (meth.sig.returnType = rt) && !meth.locks && decide (parseMethodDescriptor y.desc = some meth.sig)) = true) : (Jvm.Cond.code y bytes mx rt).before a s = true := by
  simp only [Bool.and_eq_true, beq_iff_eq, Bool.not_eq_true', decide_eq_true_eq] at h5
  obtain ⟨⟨⟨⟨⟨g1, g2⟩, g3⟩, g4⟩, g5⟩, g6⟩ := h5
  simp [Cond.before, Cond.holds, Cond.value, h1, h2, h3, h4, g1, g2, g3, g4, g5, g6]
def isCode : Jvm.Cond → Bool
  | .code _ _ _ _ => true
  | _ => false
theorem all_split {L : List Jvm.Cond} {P : Jvm.Cond → Bool} (h1 : L.all (fun c => isCode c || P c) = true) (h2 : ∀ c ∈ L.filter isCode, P c = true) : L.all P = true := by
  refine List.all_eq_true.mpr fun c hc => ?_
  have h := List.all_eq_true.mp h1 c hc
  rcases Bool.eq_false_or_eq_true (isCode c) with hi | hi
  · exact h2 c (List.mem_filter.mpr ⟨hc, hi⟩)
  · simpa [hi] using h
set_option maxRecDepth 65536 in
theorem w_c0 : (Jvm.Cond.code x code maxLocals ret).before args0 about1 = true := code_word (m := ⟨1, 4⟩) (meth := k1m4) (c := k1c4) (by decide +kernel) rfl rfl rfl (by decide +kernel)
set_option maxRecDepth 65536 in
theorem w_c1 : (Jvm.Cond.code ({ cls := "com/example/relyguard/relyguard/FootprintDependsOnPinLaw", name := "bit", desc := "(II)Z" } : Jvm.MethodName) method_2_code (2 : Nat) (Option.some Jvm.ClassFile.FieldType.boolean)).before args0 about1 = true := code_word (m := ⟨1, 1⟩) (meth := k1m1) (c := k1c1) (by decide +kernel) rfl rfl rfl (by decide +kernel)
set_option maxRecDepth 65536 in
theorem w_c2 : (Jvm.Cond.code ({ cls := "com/example/relyguard/relyguard/FootprintDependsOnPinLaw", name := "pick", desc := "(IIII)I" } : Jvm.MethodName) method_4_code (4 : Nat) (Option.some Jvm.ClassFile.FieldType.int)).before args0 about1 = true := code_word (m := ⟨1, 3⟩) (meth := k1m3) (c := k1c3) (by decide +kernel) rfl rfl rfl (by decide +kernel)
set_option maxRecDepth 65536 in
theorem w_c3 : (Jvm.Cond.code ({ cls := "com/example/relyguard/relyguard/Footprint", name := "<init>", desc := "(I)V" } : Jvm.MethodName) prog_47_method_1_code (2 : Nat) (Option.none : Option Jvm.ClassFile.FieldType)).before args0 about1 = true := code_word (m := ⟨2, 0⟩) (meth := k2m0) (c := k2c0) (by decide +kernel) rfl rfl rfl (by decide +kernel)
set_option maxRecDepth 65536 in
theorem w_c4 : (Jvm.Cond.code ({ cls := "java/lang/Object", name := "<init>", desc := "()V" } : Jvm.MethodName) object_method_1_code (1 : Nat) (Option.none : Option Jvm.ClassFile.FieldType)).before args0 about1 = true := code_word (m := ⟨0, 0⟩) (meth := k0m0) (c := k0c0) (by decide +kernel) rfl rfl rfl (by decide +kernel)
set_option maxRecDepth 65536 in
theorem w_c5 : (Jvm.Cond.code ({ cls := "java/util/BitSet", name := "<init>", desc := "()V" } : Jvm.MethodName) jdk_92_method_4_code (1 : Nat) (Option.none : Option Jvm.ClassFile.FieldType)).before args0 about1 = true := code_word (m := ⟨5, 2⟩) (meth := k5m2) (c := k5c2) (by decide +kernel) rfl rfl rfl (by decide +kernel)
set_option maxRecDepth 65536 in
theorem w_c6 : (Jvm.Cond.code ({ cls := "java/util/BitSet", name := "initWords", desc := "(I)V" } : Jvm.MethodName) jdk_92_method_6_code (2 : Nat) (Option.none : Option Jvm.ClassFile.FieldType)).before args0 about1 = true := code_word (m := ⟨5, 3⟩) (meth := k5m3) (c := k5c3) (by decide +kernel) rfl rfl rfl (by decide +kernel)
set_option maxRecDepth 65536 in
theorem w_c7 : (Jvm.Cond.code ({ cls := "java/util/BitSet", name := "wordIndex", desc := "(I)I" } : Jvm.MethodName) jdk_92_method_1_code (1 : Nat) (Option.some Jvm.ClassFile.FieldType.int)).before args0 about1 = true := code_word (m := ⟨5, 0⟩) (meth := k5m0) (c := k5c0) (by decide +kernel) rfl rfl rfl (by decide +kernel)
set_option maxRecDepth 65536 in
theorem w_c8 : (Jvm.Cond.code ({ cls := "java/util/BitSet", name := "set", desc := "(I)V" } : Jvm.MethodName) jdk_92_method_19_code (3 : Nat) (Option.none : Option Jvm.ClassFile.FieldType)).before args0 about1 = true := code_word (m := ⟨5, 6⟩) (meth := k5m6) (c := k5c6) (by decide +kernel) rfl rfl rfl (by decide +kernel)
set_option maxRecDepth 65536 in
theorem w_c9 : (Jvm.Cond.code ({ cls := "java/util/BitSet", name := "expandTo", desc := "(I)V" } : Jvm.MethodName) jdk_92_method_15_code (3 : Nat) (Option.none : Option Jvm.ClassFile.FieldType)).before args0 about1 = true := code_word (m := ⟨5, 5⟩) (meth := k5m5) (c := k5c5) (by decide +kernel) rfl rfl rfl (by decide +kernel)
set_option maxRecDepth 65536 in
theorem w_c10 : (Jvm.Cond.code ({ cls := "java/util/BitSet", name := "ensureCapacity", desc := "(I)V" } : Jvm.MethodName) jdk_92_method_14_code (3 : Nat) (Option.none : Option Jvm.ClassFile.FieldType)).before args0 about1 = true := code_word (m := ⟨5, 4⟩) (meth := k5m4) (c := k5c4) (by decide +kernel) rfl rfl rfl (by decide +kernel)
set_option maxRecDepth 65536 in
theorem w_c11 : (Jvm.Cond.code ({ cls := "java/util/BitSet", name := "checkInvariants", desc := "()V" } : Jvm.MethodName) jdk_92_method_2_code (1 : Nat) (Option.none : Option Jvm.ClassFile.FieldType)).before args0 about1 = true := code_word (m := ⟨5, 1⟩) (meth := k5m1) (c := k5c1) (by decide +kernel) rfl rfl rfl (by decide +kernel)
set_option maxRecDepth 65536 in
theorem w_c12 : (Jvm.Cond.code ({ cls := "com/example/relyguard/relyguard/Footprint", name := "dependsOn", desc := "(Lcom/example/relyguard/relyguard/Footprint;)Z" } : Jvm.MethodName) prog_47_method_13_code (4 : Nat) (Option.some Jvm.ClassFile.FieldType.boolean)).before args0 about1 = true := code_word (m := ⟨2, 5⟩) (meth := k2m5) (c := k2c5) (by decide +kernel) rfl rfl rfl (by decide +kernel)
set_option maxRecDepth 65536 in
theorem w_c13 : (Jvm.Cond.code ({ cls := "com/example/relyguard/relyguard/Footprint", name := "touch", desc := "(IZ)V" } : Jvm.MethodName) prog_47_method_2_code (3 : Nat) (Option.none : Option Jvm.ClassFile.FieldType)).before args0 about1 = true := code_word (m := ⟨2, 1⟩) (meth := k2m1) (c := k2c1) (by decide +kernel) rfl rfl rfl (by decide +kernel)
set_option maxRecDepth 65536 in
theorem w_c14 : (Jvm.Cond.code ({ cls := "com/example/relyguard/relyguard/Footprint", name := "callBegan", desc := "()V" } : Jvm.MethodName) prog_47_method_5_code (1 : Nat) (Option.none : Option Jvm.ClassFile.FieldType)).before args0 about1 = true := code_word (m := ⟨2, 2⟩) (meth := k2m2) (c := k2c2) (by decide +kernel) rfl rfl rfl (by decide +kernel)
set_option maxRecDepth 65536 in
theorem w_c15 : (Jvm.Cond.code ({ cls := "com/example/relyguard/relyguard/Footprint", name := "endsRun", desc := "()V" } : Jvm.MethodName) prog_47_method_8_code (1 : Nat) (Option.none : Option Jvm.ClassFile.FieldType)).before args0 about1 = true := code_word (m := ⟨2, 4⟩) (meth := k2m4) (c := k2c4) (by decide +kernel) rfl rfl rfl (by decide +kernel)
set_option maxRecDepth 65536 in
theorem w_c16 : (Jvm.Cond.code ({ cls := "com/example/relyguard/relyguard/Footprint", name := "callReturned", desc := "()V" } : Jvm.MethodName) prog_47_method_6_code (1 : Nat) (Option.none : Option Jvm.ClassFile.FieldType)).before args0 about1 = true := code_word (m := ⟨2, 3⟩) (meth := k2m3) (c := k2c3) (by decide +kernel) rfl rfl rfl (by decide +kernel)
set_option maxRecDepth 65536 in
theorem w_c17 : (Jvm.Cond.code ({ cls := "com/example/relyguard/relyguard/FootprintDependsOnPinLaw", name := "conflict", desc := "(IZIZ)Z" } : Jvm.MethodName) method_3_code (4 : Nat) (Option.some Jvm.ClassFile.FieldType.boolean)).before args0 about1 = true := code_word (m := ⟨1, 2⟩) (meth := k1m2) (c := k1c2) (by decide +kernel) rfl rfl rfl (by decide +kernel)
def codes1 : List Jvm.Cond := [Jvm.Cond.code x code maxLocals ret, Jvm.Cond.code ({ cls := "com/example/relyguard/relyguard/FootprintDependsOnPinLaw", name := "bit", desc := "(II)Z" } : Jvm.MethodName) method_2_code (2 : Nat) (Option.some Jvm.ClassFile.FieldType.boolean), Jvm.Cond.code ({ cls := "com/example/relyguard/relyguard/FootprintDependsOnPinLaw", name := "pick", desc := "(IIII)I" } : Jvm.MethodName) method_4_code (4 : Nat) (Option.some Jvm.ClassFile.FieldType.int), Jvm.Cond.code ({ cls := "com/example/relyguard/relyguard/Footprint", name := "<init>", desc := "(I)V" } : Jvm.MethodName) prog_47_method_1_code (2 : Nat) (Option.none : Option Jvm.ClassFile.FieldType), Jvm.Cond.code ({ cls := "java/lang/Object", name := "<init>", desc := "()V" } : Jvm.MethodName) object_method_1_code (1 : Nat) (Option.none : Option Jvm.ClassFile.FieldType), Jvm.Cond.code ({ cls := "java/util/BitSet", name := "<init>", desc := "()V" } : Jvm.MethodName) jdk_92_method_4_code (1 : Nat) (Option.none : Option Jvm.ClassFile.FieldType), Jvm.Cond.code ({ cls := "java/util/BitSet", name := "initWords", desc := "(I)V" } : Jvm.MethodName) jdk_92_method_6_code (2 : Nat) (Option.none : Option Jvm.ClassFile.FieldType), Jvm.Cond.code ({ cls := "java/util/BitSet", name := "wordIndex", desc := "(I)I" } : Jvm.MethodName) jdk_92_method_1_code (1 : Nat) (Option.some Jvm.ClassFile.FieldType.int), Jvm.Cond.code ({ cls := "java/util/BitSet", name := "set", desc := "(I)V" } : Jvm.MethodName) jdk_92_method_19_code (3 : Nat) (Option.none : Option Jvm.ClassFile.FieldType), Jvm.Cond.code ({ cls := "java/util/BitSet", name := "expandTo", desc := "(I)V" } : Jvm.MethodName) jdk_92_method_15_code (3 : Nat) (Option.none : Option Jvm.ClassFile.FieldType), Jvm.Cond.code ({ cls := "java/util/BitSet", name := "ensureCapacity", desc := "(I)V" } : Jvm.MethodName) jdk_92_method_14_code (3 : Nat) (Option.none : Option Jvm.ClassFile.FieldType), Jvm.Cond.code ({ cls := "java/util/BitSet", name := "checkInvariants", desc := "()V" } : Jvm.MethodName) jdk_92_method_2_code (1 : Nat) (Option.none : Option Jvm.ClassFile.FieldType), Jvm.Cond.code ({ cls := "com/example/relyguard/relyguard/Footprint", name := "dependsOn", desc := "(Lcom/example/relyguard/relyguard/Footprint;)Z" } : Jvm.MethodName) prog_47_method_13_code (4 : Nat) (Option.some Jvm.ClassFile.FieldType.boolean), Jvm.Cond.code ({ cls := "com/example/relyguard/relyguard/Footprint", name := "touch", desc := "(IZ)V" } : Jvm.MethodName) prog_47_method_2_code (3 : Nat) (Option.none : Option Jvm.ClassFile.FieldType), Jvm.Cond.code ({ cls := "com/example/relyguard/relyguard/Footprint", name := "callBegan", desc := "()V" } : Jvm.MethodName) prog_47_method_5_code (1 : Nat) (Option.none : Option Jvm.ClassFile.FieldType), Jvm.Cond.code ({ cls := "com/example/relyguard/relyguard/Footprint", name := "endsRun", desc := "()V" } : Jvm.MethodName) prog_47_method_8_code (1 : Nat) (Option.none : Option Jvm.ClassFile.FieldType), Jvm.Cond.code ({ cls := "com/example/relyguard/relyguard/Footprint", name := "callReturned", desc := "()V" } : Jvm.MethodName) prog_47_method_6_code (1 : Nat) (Option.none : Option Jvm.ClassFile.FieldType), Jvm.Cond.code ({ cls := "com/example/relyguard/relyguard/FootprintDependsOnPinLaw", name := "conflict", desc := "(IZIZ)Z" } : Jvm.MethodName) method_3_code (4 : Nat) (Option.some Jvm.ClassFile.FieldType.boolean)]
set_option maxRecDepth 65536 in
theorem codes_eq : words1.filter isCode = codes1 := rfl
theorem w_codes : ∀ c ∈ words1.filter isCode, c.before args0 about1 = true := by
  rw [codes_eq]
  intro c hc
  simp only [codes1, List.mem_cons, List.not_mem_nil, or_false] at hc
  rcases hc with rfl | rfl | rfl | rfl | rfl | rfl | rfl | rfl | rfl | rfl | rfl | rfl | rfl | rfl | rfl | rfl | rfl | rfl
  · exact w_c0
  · exact w_c1
  · exact w_c2
  · exact w_c3
  · exact w_c4
  · exact w_c5
  · exact w_c6
  · exact w_c7
  · exact w_c8
  · exact w_c9
  · exact w_c10
  · exact w_c11
  · exact w_c12
  · exact w_c13
  · exact w_c14
  · exact w_c15
  · exact w_c16
  · exact w_c17
set_option maxRecDepth 65536 in
theorem w_t1 : (words1.take 24).all (fun c => isCode c || c.before args0 about1) = true := by decide +kernel
set_option maxRecDepth 65536 in
theorem w_t2 : ((words1.drop 24).take 24).all (fun c => isCode c || c.before args0 about1) = true := by decide +kernel
set_option maxRecDepth 65536 in
theorem w_t3 : (((words1.drop 24).drop 24).take 24).all (fun c => isCode c || c.before args0 about1) = true := by decide +kernel
set_option maxRecDepth 65536 in
theorem w_t4 : ((((words1.drop 24).drop 24).drop 24).take 24).all (fun c => isCode c || c.before args0 about1) = true := by decide +kernel
set_option maxRecDepth 65536 in
theorem w_t5 : ((((words1.drop 24).drop 24).drop 24).drop 24).all (fun c => isCode c || c.before args0 about1) = true := by decide +kernel
theorem w_tables : (allAtoms (Jvm.Cond.code x code maxLocals ret :: tables_1)).before args0 about1 = true := by
  rw [allAtoms_all]
  show words1.all (fun c => c.before args0 about1) = true
  refine all_split ?_ w_codes
  rw [← List.take_append_drop 24 words1, List.all_append, w_t1, ← List.take_append_drop 24 (words1.drop 24), List.all_append, w_t2, ← List.take_append_drop 24 ((words1.drop 24).drop 24), List.all_append, w_t3, ← List.take_append_drop 24 (((words1.drop 24).drop 24).drop 24), List.all_append, w_t4, w_t5]
  rfl
set_option maxRecDepth 65536 in
theorem w_rest : rest_1_c.before args0 about1 = true := by decide +kernel
set_option maxRecDepth 65536 in
theorem w_case : (Jvm.Cond.and given_1 narrow_1).before args0 about1 = true := by decide +kernel
theorem w_applies : (headSpec (Jvm.Cond.code x code maxLocals ret :: tables_1) room_1).applies x e0.platform about1 = true :=
  (Spec.applies_iff w_frames).mpr ⟨w_running, w_runnable, w_alone, w_named, w_hears, w_ripe, w_room, w_tables⟩
theorem atStart : AtStart classFile x code maxLocals ret World_1 tables_1 room_1 Calls_1 rest_1 Pre_1 launch0 p0 e0 about1 theMethod args0 below0 :=
  ⟨lists_1, trivial, launch0.admits_env _ _ _, launch0.least_env, fairChoices_fair.cas, fairChoices_fair.clock, w_frames, w_args, w_heap, w_applies, trivial, w_rest, w_case⟩
end start1
theorem witness_1 : WitnessClaimed_1 := ⟨start1.p0, start1.e0, start1.about1, start1.theMethod, start1.args0, start1.below0, start1.atStart⟩
end Jvm.Pilot.@@N@@
