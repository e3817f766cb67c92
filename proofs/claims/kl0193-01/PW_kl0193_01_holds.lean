import PyProof.Rows.All
import Wide.All
import OpenK.AllK
import Wide.FinOn
import PySem.Challenge.RW_kl0193_01
set_option Elab.async false
set_option maxRecDepth 100000
section
open PySem PySem.W PyProof.Rows PySem.Calls
namespace Mine
section
variable (stp : SharedT → Thread → Option (SharedT × Thread)) (ok : Thread → Bool)
noncomputable def runG : Nat → SharedT → Thread → Option SharedT
  | 0, _, _ => none
  | n + 1, s, t => match through t with
    | true => some s
    | false => match ok t with
      | false => none
      | true => match stp s t with
        | some (s', t') => runG n s' t'
        | none => none
end
theorem runG_top {tb : String → Option Builtin} {p : Program} {w : World} {n₀ : Nat} {ann : Option Value} : ∀ (n : Nat) (s : SharedT) (t : Thread) (r : SharedT),
    runG (stepT (denote tb) p w) (stepOk n₀ ann) n s t = some r → topRun tb p w n₀ ann n s.abs t = some r.abs
  | 0, _, _, _, h => by simp [runG] at h
  | n + 1, s, t, r, h => by
    unfold runG at h
    unfold topRun
    cases ht : through t with
    | true => rw [ht] at h; cases h; rfl
    | false =>
      rw [ht] at h
      cases hk : stepOk n₀ ann t with
      | false => rw [hk] at h; cases h
      | true =>
        rw [hk] at h
        cases hs : stepT (denote tb) p w s t with
        | none => rw [hs] at h; cases h
        | some x =>
          obtain ⟨s', t'⟩ := x
          rw [hs] at h
          rw [stepT_spec hs]
          exact runG_top n s' t' r h
noncomputable def insAll (t : BT) (n : Nat) : List Obj → BT
  | [] => t
  | o :: r => insAll (t.ins n o) (n + 1) r
noncomputable def bootT (P : Params) : BT := insAll .nil 0 (boot_heap P).objs.toList
theorem boot_abs (P : Params) : absHeap (bootT P) 11 {} = boot_heap P := by kernel_rfl
noncomputable abbrev S0T (w : World) (os : OsState) : SharedT := ⟨bootT w.params, 11, {}, #[], boot_drawn, boot_toks, os⟩
theorem boot_abs' (w : World) (os : OsState) : (S0T w os).abs = ⟨boot_heap w.params, #[], boot_drawn, boot_toks, os⟩ := by
  show Shared.mk (absHeap (bootT w.params) 11 {}) _ _ _ _ = _
  rw [boot_abs]
theorem boot_size (P : Params) : ((boot_heap P).isNs mainGlobals && (#[] : Array GenState).size == 0, (boot_heap P).objs.size, (boot_heap P).nsMap mainGlobals "__annotations__") = (true, 11, some (Value.ref 6)) := by kernel_rfl
/-- the run of the top on a tree -/
noncomputable abbrev topT (p : Program) (M : Nat) (w : World) (os : OsState) : Option SharedT := runG (stepT (denote treeTable) p w) (stepOk 11 (some (Value.ref 6))) M (S0T w os) (topStub p)
/-- an object met by the tree -/
noncomputable def getT (s : SharedT) (a : Addr) : Option Obj := match Nat.blt a s.n with
  | true => alive ((s.tree.get a).getD default)
  | false => none
theorem getT_eq (s : SharedT) (a : Addr) : s.abs.heap.get? a = getT s a := by
  show (absHeap s.tree s.n s.life).get? a = _
  unfold Heap.get? getT
  rw [absHeap_at]
  by_cases h : a < s.n
  · rw [if_pos h, show Nat.blt a s.n = true from Nat.ble_eq_true_of_le h]
    show (match some ((s.tree.get a).getD default) with | some ⟨_, _, .freed, _⟩ => none | o => o) = alive _
    generalize (s.tree.get a).getD default = o
    obtain ⟨c, d, dt, sl⟩ := o
    cases dt <;> rfl
  · rw [if_neg h, show Nat.blt a s.n = false from Bool.eq_false_iff.mpr fun q => h (Nat.le_of_ble_eq_true q)]
section
variable {α₁ α₂ α₃ α₄ α₅ α₆ α₇ α₈ α₉ : Type}
/-- nine looks without the sixth -/
abbrev but6 (o : α₁ × α₂ × α₃ × α₄ × α₅ × α₆ × α₇ × α₈ × α₉) : α₁ × α₂ × α₃ × α₄ × α₅ × α₇ × α₈ × α₉ := (o.1, o.2.1, o.2.2.1, o.2.2.2.1, o.2.2.2.2.1, o.2.2.2.2.2.2.1, o.2.2.2.2.2.2.2.1, o.2.2.2.2.2.2.2.2)
/-- the same, by cases: so the kernel does not hold the two sides' nines against one another -/
abbrev keep8 (o : α₁ × α₂ × α₃ × α₄ × α₅ × α₆ × α₇ × α₈ × α₉) : α₁ × α₂ × α₃ × α₄ × α₅ × α₇ × α₈ × α₉ := match o with
  | (a, b, c, d, e, _, g, h, i) => (a, b, c, d, e, g, h, i)
theorem but6_ext {o o' : α₁ × α₂ × α₃ × α₄ × α₅ × α₆ × α₇ × α₈ × α₉} (h : but6 o = keep8 o') (k : o.2.2.2.2.2.1 = o'.2.2.2.2.2.1) : o = o' := by
  obtain ⟨_, _, _, _, _, _, _, _, _⟩ := o'
  exact Prod.ext (congrArg (fun x => x.1) h) (Prod.ext (congrArg (fun x => x.2.1) h) (Prod.ext (congrArg (fun x => x.2.2.1) h) (Prod.ext (congrArg (fun x => x.2.2.2.1) h) (Prod.ext (congrArg (fun x => x.2.2.2.2.1) h)
    (Prod.ext k (Prod.ext (congrArg (fun x => x.2.2.2.2.2.1) h) (Prod.ext (congrArg (fun x => x.2.2.2.2.2.2.1) h) (congrArg (fun x => x.2.2.2.2.2.2.2) h))))))))
end
theorem leftO_tree {p q : Program} {loose : List Str} {Xt : Shared → Bool} {K : Params → Frag} {as : List Addr} {hK : ∀ P, as = (K P).map (·.1)} {N M : Nat}
    (e : opening p = plainProg p.main.scope.names) (hN : Nat.ble 600 N = true) (f : ∀ s, fenceModules? p s = some s) (le : Nat.ble M N = true)
    (hA : ∀ (w : World) (os : OsState), (topT p M w os).map (fun s => ((staticsOk (importedModules p.main.body) (boot_heap w.params) s.abs.heap && namesBound p s.abs.heap && gensDone s.abs && laidKept (boot_heap w.params) s.abs.heap), but6 (openSeen q loose (importedModules p.main.body) Xt true s.abs))) = some (true, keep8 (openGood q loose)))
    (hB : ∀ (w : World) (os : OsState), (topT p M w os).map (fun s => plainSeenE q (looseW q loose) s.abs) = some (plainGoodE q (looseW q loose)))
    (hC : ∀ (w : World) (os : OsState), (topT p M w os).map (fun s => as.map (getT s)) = some ((K w.params).map fun p => some p.2)) :
    LeftO p q loose Xt (Hook.obs (kHook K as hK)) (Hook.val (kHook K as hK)) N := fun w => by
  obtain ⟨⟨hp, gs, d, k, os⟩, e1, e'⟩ := Option.map_eq_some_iff.mp (boot_open e hN f w)
  obtain ⟨rfl, rfl, rfl, rfl⟩ : hp = boot_heap w.params ∧ gs = #[] ∧ d = boot_drawn ∧ k = boot_toks := by simpa using e'
  obtain ⟨z1, z2, z3⟩ : _ ∧ _ ∧ _ := by simpa only [Prod.mk.injEq] using boot_size w.params
  obtain ⟨s, hr, l1⟩ := Option.map_eq_some_iff.mp (hA w os)
  have l2 := hB w os
  have l3 := hC w os
  rw [hr] at l2 l3
  replace l2 : plainSeenE q (looseW q loose) s.abs = _ := Option.some.inj l2
  replace l3 := Option.some.inj l3
  have l3' : as.map s.abs.heap.get? = (K w.params).map fun p => some p.2 := (List.map_congr_left fun a _ => getT_eq s a).trans l3
  obtain ⟨a1, a2⟩ := Prod.mk.inj l1
  have sn : openSeen q loose (importedModules p.main.body) Xt true s.abs = openGood q loose := but6_ext a2 l2
  have r := runG_top _ _ _ _ hr
  rw [boot_abs'] at r
  have r := topRun_mono (N - M) _ _ _ _ r
  rw [show M + (N - M) = N by have := Nat.le_of_ble_eq_true le; omega] at r
  have t : topFrom treeTable p w N ⟨boot_heap w.params, #[], boot_drawn, boot_toks, os⟩ = some s.abs := by
    unfold topFrom
    dsimp only
    rw [z1, z2, z3, r]
    show (match staticsOk (importedModules p.main.body) (boot_heap w.params) s.abs.heap && namesBound p s.abs.heap && gensDone s.abs && laidKept (boot_heap w.params) s.abs.heap with | true => _ | false => _) = _
    rw [a1]
  unfold openEnds
  rw [e1]
  show (topFrom treeTable p w N _).map _ = _
  rw [t]
  exact congrArg some (Prod.ext sn l3')
end Mine
end
section
open PySem PySem.W PyProof.Rows PySem.Calls
namespace Mine
def viewV : Program := view PySem.Challenge.pw_kl0193_01 [0, 2, 3, 4, 5, 7, 8, 9, 10, 12, 14, 15, 16, 17, 18, 19, 20, 21, 22, 23, 24]
abbrev looseV : List Str := [Str.ofString "SAXException"]
abbrev rowV : OpenRow := OpenLaw.row PySem.Challenge.rw_kl0193_01
abbrev xtV : Shared → Bool := fun s => xlAt viewV [] s && recOk (RowW.records (OpenRow.toRowW rowV)) s
theorem well_v : OpenLaw.wellSaid PySem.Challenge.rw_kl0193_01 = true := by
  rw [PySem.W.Fast.te9446332074065402090]
  kernel_rfl
-- the objects written out
set_option hygiene false in
local macro_rules | `(tactic| o_head $_:term) => `(tactic| exact hold)
theorem hdK (hold : OpenRow.Holds rowV) : OpenRow.Holds rowV := by x_head
def asV : List Addr := [0, 1, 2, 3, 4, 5, 6, 7, 8, 9, 10, 11, 12, 13, 14, 15, 16, 17, 18, 19, 20, 21, 29, 30, 31, 32, 33, 34, 35, 36, 37, 38, 39, 40, 41, 42, 43, 44, 45, 46, 47, 48, 49, 50, 51, 52, 53, 54, 64, 65, 66, 67, 68, 69, 70, 71, 72, 73, 74, 75, 76, 77, 78, 79, 80, 81, 82, 83, 84, 85, 86, 87, 88, 89, 90, 91, 92, 93, 94, 95, 96, 97, 98, 99, 100, 101, 102, 103, 104, 105, 106, 107, 108, 109, 110, 111, 112, 113, 114, 115, 116, 117, 118, 119, 120, 121, 122, 123, 124, 125, 126, 127, 128, 129, 130, 131, 132, 133, 134, 135, 136, 137, 138, 139, 140, 141, 142, 143, 144, 145, 146, 147, 148, 149, 150, 151, 152, 153, 154, 155, 156, 157, 158, 159, 160, 161, 162, 163, 164, 165, 166, 176, 177, 178, 179, 180, 181, 182, 183, 184, 185, 186, 187, 188, 189, 190, 191, 192, 193, 194, 204, 205, 206, 207, 208, 209, 210, 211, 212, 213, 214, 215, 218, 225, 226, 227, 228, 229, 230, 231, 232, 233, 234, 235, 236, 237, 238, 239, 240, 241, 242, 243, 244, 245, 246, 247, 248, 249, 250, 251, 252, 253, 254, 255, 256, 257, 258, 259, 260, 261, 262, 263, 264, 267, 274, 275, 276, 279, 286, 287, 288, 291, 298, 299, 300, 310, 311, 312, 313, 314, 315, 316, 317, 318, 319, 320, 321, 322, 323, 324, 325, 326, 327, 328, 329, 330, 331, 332, 333, 334, 335, 336, 337, 338, 339, 340, 341, 342, 343, 344, 345, 346, 347, 348, 349, 350, 351, 352, 353, 354, 355, 356, 357, 358, 359, 360, 361, 362, 363, 364, 365, 366, 367, 368, 369, 370, 371, 372, 373, 374, 375, 376, 377, 378, 379, 380, 381, 382, 383, 384, 385, 386, 387, 388, 389, 390, 391, 392, 393, 394, 395, 396, 397, 398, 399, 400, 401, 402, 403, 404, 405, 406, 407, 408, 409, 410, 411, 412, 413, 414, 415, 416, 417, 418, 419, 422, 423, 424, 425, 426, 427, 428, 429, 430, 431, 432, 433, 434, 435, 436, 437, 438, 439, 440, 441, 442, 443, 444, 445, 446, 447, 448, 449, 450, 451, 452, 453, 454, 455, 456, 457, 458, 459, 460, 461, 462, 463, 464, 465, 466, 467, 468, 469, 470, 471, 472, 473, 474, 475, 476, 477, 478, 479, 480, 481, 482, 483, 484, 485, 486, 487, 488, 489, 490, 491, 492, 493, 494]
theorem as_v (P : Params) : asV = (hdK.heap_1 P).map (·.1) := by kernel_rfl
-- the top's run, looked at three times
theorem top_a (w : World) (os : OsState) : (topT PySem.Challenge.pw_kl0193_01 3600 w os).map (fun s => ((staticsOk (importedModules PySem.Challenge.pw_kl0193_01.main.body) (boot_heap w.params) s.abs.heap && namesBound PySem.Challenge.pw_kl0193_01 s.abs.heap && gensDone s.abs && laidKept (boot_heap w.params) s.abs.heap), but6 (openSeen viewV looseV (importedModules PySem.Challenge.pw_kl0193_01.main.body) xtV true s.abs))) = some (true, keep8 (openGood viewV looseV)) := by
  unfold topT xtV viewV
  rw [PySem.W.Fast.te10156331382660048174, PySem.W.Fast.te11892475500146522536, PySem.W.Fast.te14364793385576792824, PySem.W.Fast.te6613529449190102663, PySem.W.Fast.te5923862056798008813]
  kernel_rfl
theorem top_b (w : World) (os : OsState) : (topT PySem.Challenge.pw_kl0193_01 3600 w os).map (fun s => plainSeenE viewV (looseW viewV looseV) s.abs) = some (plainGoodE viewV (looseW viewV looseV)) := by
  unfold topT viewV
  rw [PySem.W.Fast.te10156331382660048174, PySem.W.Fast.te11892475500146522536, PySem.W.Fast.te14364793385576792824, PySem.W.Fast.te6613529449190102663]
  kernel_rfl
theorem top_c (w : World) (os : OsState) : (topT PySem.Challenge.pw_kl0193_01 3600 w os).map (fun s => asV.map (getT s)) = some ((hdK.heap_1 w.params).map fun p => some p.2) := by
  unfold topT
  rw [PySem.W.Fast.te10156331382660048174, PySem.W.Fast.te11892475500146522536, PySem.W.Fast.te14364793385576792824, PySem.W.Fast.te6613529449190102663]
  kernel_rfl
theorem plain_v : opening PySem.Challenge.pw_kl0193_01 = plainProg PySem.Challenge.pw_kl0193_01.main.scope.names := by kernel_rfl
theorem fence_v (s : Shared) : fenceModules? PySem.Challenge.pw_kl0193_01 s = some s := by kernel_rfl
theorem left_v : LeftO PySem.Challenge.pw_kl0193_01 viewV looseV xtV (Hook.obs (kHook hdK.heap_1 asV as_v)) (Hook.val (kHook hdK.heap_1 asV as_v)) 7106 :=
  leftO_tree (p := PySem.Challenge.pw_kl0193_01) (q := viewV) (loose := looseV) (Xt := xtV) (K := hdK.heap_1) (as := asV) (hK := as_v) (N := 7106) (M := 3600) plain_v (by decide) fence_v (by decide) top_a top_b top_c
set_option hygiene false in
local macro_rules | `(tactic| o_law) => `(tactic| refine holds_law well_v fun said => ?_)
set_option hygiene false in
local macro_rules | `(tactic| k_head) => `(tactic| (
  refine holds_open (q := viewV) (loose := looseV) (Xt := xtV) (XP := XL viewV []) (Yf := Hook.obs (kHook hdK.heap_1 asV as_v)) (Ya := Hook.val (kHook hdK.heap_1 asV as_v)) (YP := Hook.says (kHook hdK.heap_1 asV as_v)) (N := 7106)
    left_v (Hook.of (kHook hdK.heap_1 asV as_v)) (Hook.keeps (kHook hdK.heap_1 asV as_v))
    (fun s e => xl_of s (Bool.and_eq_true_iff.mp e).1) XL.keeps (by rfl) (by rfl) (by rfl) (fun s e => recFacts_of (Bool.and_eq_true_iff.mp e).2) (by rfl) (by assumption) (by decide +kernel) ⟨rfl, rfl, rfl, rfl, rfl, by decide +kernel⟩ ?hw ?hc))
set_option maxHeartbeats 8000000 in
open_top hd for PySem.Challenge.rw_kl0193_01
end Mine
end
section
open PySem PySem.W PySem.W.X PyProof.Rows PySem.Calls
namespace Mine

/-- a state: the heap and the tokens turned -/
abbrev St (s : Shared) (h : Heap) (t : Nat) : Shared := { s with heap := h, toks := t }
/-- all that stood outside S stands -/
def Ex (S : List Addr) (h h' : Heap) : Prop := ∀ b o, b ∉ S → h.get? b = some o → h'.get? b = some o
theorem Ex.refl (S : List Addr) (h : Heap) : Ex S h h := fun _ _ _ e => e
theorem Ex.trans {S : List Addr} {h h' h'' : Heap} (x : Ex S h h') (y : Ex S h' h'') : Ex S h h'' := fun b o n e => y b o n (x b o n e)
theorem Ex.mono {S S' : List Addr} {h h' : Heap} (x : Ex S h h') (k : ∀ b, b ∈ S → b ∈ S') : Ex S' h h' := fun b o n e => x b o (fun q => n (k b q)) e
theorem Ex.stays {h h' : Heap} (x : Ex [] h h') : h.StaysIn h' := fun b o e => x b o (by simp) e
theorem Ex.of_stays {S : List Addr} {h h' : Heap} (x : h.StaysIn h') : Ex S h h' := fun b o _ e => x b o e
theorem Ex.push (S : List Addr) (h : Heap) (o : Obj) : Ex S h (h.push o) := fun _ _ _ e => Heap.get?_push_of_some _ e
theorem Ex.sameBut {L : Addr} {h h' : Heap} (x : Heap.SameBut L h h') : Ex [L] h h' := fun b o n e => (x.2 b (fun q => n (by simp [q]))).trans e
theorem stays_refl (h : Heap) : h.StaysIn h := fun _ _ e => e
theorem stays_trans {h h' h'' : Heap} (x : h.StaysIn h') (y : h'.StaysIn h'') : h.StaysIn h'' := fun b o e => y b o (x b o e)
theorem stays_push (h : Heap) (o : Obj) : h.StaysIn (h.push o) := fun _ _ e => Heap.get?_push_of_some _ e

/-- an object that S does not hold -/
def gt (S : List Addr) (h : Heap) (a : Addr) (o : Obj) : Prop := h.get? a = some o ∧ a ∉ S
theorem gt.ex {S : List Addr} {h h' : Heap} {a : Addr} {o : Obj} (x : gt S h a o) (e : Ex S h h') : gt S h' a o := ⟨e a o x.2 x.1, x.2⟩

/-- the base: what the top left -/
structure Base0 (w : World) (mg mb : Str → Option Value) (h₀ : Heap) : Prop where
  X : (hdK.heap_1 w.params).In h₀
  T : TopRead viewV (looseW viewV [Str.ofString "SAXException"]) mg mb h₀
structure Bs (h₀ h : Heap) : Prop where
  keep : h₀.StaysIn h
  size : h₀.objs.size ≤ h.objs.size
theorem Bs.of {h₀ h : Heap} {L : Addr} {m : Str → Option Value} (F : Fr h₀ L h m) : Bs h₀ h := ⟨F.keep, Nat.le_of_lt (Nat.lt_of_le_of_lt F.above F.ns.lt)⟩
theorem Bs.in {w : World} {mg mb : Str → Option Value} {h₀ h : Heap} (B : Base0 w mg mb h₀) (b : Bs h₀ h) : (hdK.heap_1 w.params).In h := B.X.keeps b.keep
theorem Bs.lim {w : World} {mg mb : Str → Option Value} {h₀ h : Heap} (B : Base0 w mg mb h₀) (b : Bs h₀ h) : h.NoLimit := B.T.nolimit.keeps b.keep

/-- room on the stack -/
structure Am (A : Around) (d u : Nat) : Prop where
  handled : A.handled = none
  depth : A.depth ≤ d
  units : A.units ≤ u
abbrev A1 : Around := { handled := none, depth := 500, frames := none, guards := none, units := 2000 }
theorem lift {prog : Program} {w : World} {α : Type} {A : Around} {t : Sem α} {Q : α → Shared → Prop} {E : Value → Shared → Prop} {s : Shared} (a : Am A 500 2000) (h : wpAny (model prog w) A1 t Q E s) : wpAny (model prog w) A t Q E s :=
  fun Γ p hΓ => h Γ p ⟨hΓ.1.trans a.handled, Nat.le_trans hΓ.2.1 a.depth, fun l hl => (nomatch hl), fun l hl => (nomatch hl), Nat.le_trans hΓ.2.2.2.2 a.units⟩

theorem Am.lt {A : Around} {d u : Nat} (a : Am A d u) (h : d < 1000 := by decide) : A.depth < recursionLimit := Nat.lt_of_le_of_lt a.depth h
theorem Am.deeper {A : Around} {d u : Nat} (a : Am A d u) (env : Env) : Am (A.deeper env) (d + 1) (u + 3) := ⟨a.handled, Nat.succ_le_succ a.depth, Nat.add_le_add_right a.units 3⟩
theorem Am.mono {A : Around} {d u d' u' : Nat} (a : Am A d u) (h : d ≤ d' := by decide) (h' : u ≤ u' := by decide) : Am A d' u' := ⟨a.handled, Nat.le_trans a.depth h, Nat.le_trans a.units h'⟩

section
variable {prog : Program} {w : World} {mg mb : Str → Option Value} {h₀ : Heap}
/-- a def of the text is entered -/
theorem enter {A : Around} {s : Shared} {h : Heap} {t d u : Nat} {R : Result → Shared → Prop} {name qual : Str} {params : Arguments} {body : List Stmt} {scope : Scope} {dV kV doc pm cdv ct oc : Value} {an od : Option Addr} {osl : Array (Option Value)} {f : Addr} {args : Args} {binds : List (Str × Value)}
    (B : Base0 w mg mb h₀) (b : Bs h₀ h) (a : Am A d u)
    (ho : (hdK.heap_1 w.params).lookup f = some ⟨oc, od, .func (fnOf name qual params body scope dV kV doc pm an cdv ct), osl⟩) (hcd : codeIn (hdK.heap_1 w.params) cdv qual = true)
    (hbind : BindsTo (St s h t) (fnOf name qual params body scope dV kV doc pm an cdv ct) args binds) (hloc : ∀ y ∈ binds, scope.names.lookup y.1 = some .local)
    (k : ∀ h₁, Fr h₀ h.objs.size h₁ (fun y => binds.reverse.lookup y) → h.StaysIn h₁ →
      wpAny (model prog w) (A.deeper (envOf qual scope h.objs.size f cdv)) (execs body (envOf qual scope h.objs.size f cdv))
        (fun fl s' => R (.ok (.ret (match fl with | .ret v => v | _ => .none))) s')
        (fun e s' => wpAny (model prog w) (A.deeper (envOf qual scope h.objs.size f cdv)) (leaving (envOf qual scope h.objs.size f cdv) e) (fun _ s'' => R (.error e) s'') (fun e' s'' => R (.error e') s'') s')
        (St s h₁ (t + binds.length)))
    (hd : d < 1000 := by decide)
    (hco : scope.isCoroutine = false := by rfl) (hgen : scope.isGenerator = false := by rfl) (hk : scope.kind = .function := by rfl)
    (hcell : ∀ x ∈ scope.names, x.2 ≠ .cell := by decide) : codeAny (model prog w) A (.call (.ref f) args) R (St s h t) := by
  have X := b.in B
  refine codeAny_call_def (fd := fnOf name qual params body scope dV kV doc pm an cdv ct) (body := body) (binds := binds) (a.lt hd) (X _ _ ho) rfl (b.lim B) (codeRec_of X hcd) rfl hbind hcell hloc (fun h₁ hns hk₁ => ?_) hco hgen hk
  exact k h₁ ⟨hns, stays_trans b.keep hk₁, b.size⟩ hk₁
end
end Mine
end
section
open PySem PySem.W PySem.W.X PyProof.Rows PySem.Calls
namespace Mine
/-- the names of the built-ins, their signs written as numbers -/
noncomputable def bltA (P : Params) : Array DictEntry := #[
  ⟨PyData.keyHash P ⟨#[95,95,110,97,109,101,95,95]⟩, .str ⟨#[95,95,110,97,109,101,95,95]⟩ 1, .str ⟨#[98,117,105,108,116,105,110,115]⟩ 160⟩,
  ⟨PyData.keyHash P ⟨#[95,95,100,111,99,95,95]⟩, .str ⟨#[95,95,100,111,99,95,95]⟩ 2, .builtin "builtins.__doc__:str#opaque"⟩,
  ⟨PyData.keyHash P ⟨#[95,95,112,97,99,107,97,103,101,95,95]⟩, .str ⟨#[95,95,112,97,99,107,97,103,101,95,95]⟩ 3, .builtin "builtins.__package__:str#opaque"⟩,
  ⟨PyData.keyHash P ⟨#[95,95,108,111,97,100,101,114,95,95]⟩, .str ⟨#[95,95,108,111,97,100,101,114,95,95]⟩ 4, .builtin "builtins.__loader__:shared#opaque"⟩,
  ⟨PyData.keyHash P ⟨#[95,95,115,112,101,99,95,95]⟩, .str ⟨#[95,95,115,112,101,99,95,95]⟩ 5, .builtin "builtins.__spec__#opaque"⟩,
  ⟨PyData.keyHash P ⟨#[95,95,98,117,105,108,100,95,99,108,97,115,115,95,95]⟩, .str ⟨#[95,95,98,117,105,108,100,95,99,108,97,115,115,95,95]⟩ 6, .builtin "__build_class__"⟩,
  ⟨PyData.keyHash P ⟨#[95,95,105,109,112,111,114,116,95,95]⟩, .str ⟨#[95,95,105,109,112,111,114,116,95,95]⟩ 7, .builtin "__import__"⟩,
  ⟨PyData.keyHash P ⟨#[97,98,115]⟩, .str ⟨#[97,98,115]⟩ 8, .builtin "abs"⟩,
  ⟨PyData.keyHash P ⟨#[97,108,108]⟩, .str ⟨#[97,108,108]⟩ 9, .builtin "all"⟩,
  ⟨PyData.keyHash P ⟨#[97,110,121]⟩, .str ⟨#[97,110,121]⟩ 10, .builtin "any"⟩,
  ⟨PyData.keyHash P ⟨#[97,115,99,105,105]⟩, .str ⟨#[97,115,99,105,105]⟩ 11, .builtin "ascii"⟩,
  ⟨PyData.keyHash P ⟨#[98,105,110]⟩, .str ⟨#[98,105,110]⟩ 12, .builtin "bin"⟩,
  ⟨PyData.keyHash P ⟨#[98,114,101,97,107,112,111,105,110,116]⟩, .str ⟨#[98,114,101,97,107,112,111,105,110,116]⟩ 13, .builtin "breakpoint"⟩,
  ⟨PyData.keyHash P ⟨#[99,97,108,108,97,98,108,101]⟩, .str ⟨#[99,97,108,108,97,98,108,101]⟩ 14, .builtin "callable"⟩,
  ⟨PyData.keyHash P ⟨#[99,104,114]⟩, .str ⟨#[99,104,114]⟩ 15, .builtin "chr"⟩,
  ⟨PyData.keyHash P ⟨#[99,111,109,112,105,108,101]⟩, .str ⟨#[99,111,109,112,105,108,101]⟩ 16, .builtin "compile"⟩,
  ⟨PyData.keyHash P ⟨#[100,101,108,97,116,116,114]⟩, .str ⟨#[100,101,108,97,116,116,114]⟩ 17, .builtin "delattr"⟩,
  ⟨PyData.keyHash P ⟨#[100,105,114]⟩, .str ⟨#[100,105,114]⟩ 18, .builtin "dir"⟩,
  ⟨PyData.keyHash P ⟨#[100,105,118,109,111,100]⟩, .str ⟨#[100,105,118,109,111,100]⟩ 19, .builtin "divmod"⟩,
  ⟨PyData.keyHash P ⟨#[101,118,97,108]⟩, .str ⟨#[101,118,97,108]⟩ 20, .builtin "eval"⟩,
  ⟨PyData.keyHash P ⟨#[101,120,101,99]⟩, .str ⟨#[101,120,101,99]⟩ 21, .builtin "exec"⟩,
  ⟨PyData.keyHash P ⟨#[102,111,114,109,97,116]⟩, .str ⟨#[102,111,114,109,97,116]⟩ 22, .builtin "format"⟩,
  ⟨PyData.keyHash P ⟨#[103,101,116,97,116,116,114]⟩, .str ⟨#[103,101,116,97,116,116,114]⟩ 23, .builtin "getattr"⟩,
  ⟨PyData.keyHash P ⟨#[103,108,111,98,97,108,115]⟩, .str ⟨#[103,108,111,98,97,108,115]⟩ 24, .builtin "globals"⟩,
  ⟨PyData.keyHash P ⟨#[104,97,115,97,116,116,114]⟩, .str ⟨#[104,97,115,97,116,116,114]⟩ 25, .builtin "hasattr"⟩,
  ⟨PyData.keyHash P ⟨#[104,97,115,104]⟩, .str ⟨#[104,97,115,104]⟩ 26, .builtin "hash"⟩,
  ⟨PyData.keyHash P ⟨#[104,101,120]⟩, .str ⟨#[104,101,120]⟩ 27, .builtin "hex"⟩,
  ⟨PyData.keyHash P ⟨#[105,100]⟩, .str ⟨#[105,100]⟩ 28, .builtin "id"⟩,
  ⟨PyData.keyHash P ⟨#[105,110,112,117,116]⟩, .str ⟨#[105,110,112,117,116]⟩ 29, .builtin "input"⟩,
  ⟨PyData.keyHash P ⟨#[105,115,105,110,115,116,97,110,99,101]⟩, .str ⟨#[105,115,105,110,115,116,97,110,99,101]⟩ 30, .builtin "isinstance"⟩,
  ⟨PyData.keyHash P ⟨#[105,115,115,117,98,99,108,97,115,115]⟩, .str ⟨#[105,115,115,117,98,99,108,97,115,115]⟩ 31, .builtin "issubclass"⟩,
  ⟨PyData.keyHash P ⟨#[105,116,101,114]⟩, .str ⟨#[105,116,101,114]⟩ 32, .builtin "iter"⟩,
  ⟨PyData.keyHash P ⟨#[97,105,116,101,114]⟩, .str ⟨#[97,105,116,101,114]⟩ 33, .builtin "aiter"⟩,
  ⟨PyData.keyHash P ⟨#[108,101,110]⟩, .str ⟨#[108,101,110]⟩ 34, .builtin "len"⟩,
  ⟨PyData.keyHash P ⟨#[108,111,99,97,108,115]⟩, .str ⟨#[108,111,99,97,108,115]⟩ 35, .builtin "locals"⟩,
  ⟨PyData.keyHash P ⟨#[109,97,120]⟩, .str ⟨#[109,97,120]⟩ 36, .builtin "max"⟩,
  ⟨PyData.keyHash P ⟨#[109,105,110]⟩, .str ⟨#[109,105,110]⟩ 37, .builtin "min"⟩,
  ⟨PyData.keyHash P ⟨#[110,101,120,116]⟩, .str ⟨#[110,101,120,116]⟩ 38, .builtin "next"⟩,
  ⟨PyData.keyHash P ⟨#[97,110,101,120,116]⟩, .str ⟨#[97,110,101,120,116]⟩ 39, .builtin "anext"⟩,
  ⟨PyData.keyHash P ⟨#[111,99,116]⟩, .str ⟨#[111,99,116]⟩ 40, .builtin "oct"⟩,
  ⟨PyData.keyHash P ⟨#[111,114,100]⟩, .str ⟨#[111,114,100]⟩ 41, .builtin "ord"⟩,
  ⟨PyData.keyHash P ⟨#[112,111,119]⟩, .str ⟨#[112,111,119]⟩ 42, .builtin "pow"⟩,
  ⟨PyData.keyHash P ⟨#[112,114,105,110,116]⟩, .str ⟨#[112,114,105,110,116]⟩ 43, .builtin "print"⟩,
  ⟨PyData.keyHash P ⟨#[114,101,112,114]⟩, .str ⟨#[114,101,112,114]⟩ 44, .builtin "repr"⟩,
  ⟨PyData.keyHash P ⟨#[114,111,117,110,100]⟩, .str ⟨#[114,111,117,110,100]⟩ 45, .builtin "round"⟩,
  ⟨PyData.keyHash P ⟨#[115,101,116,97,116,116,114]⟩, .str ⟨#[115,101,116,97,116,116,114]⟩ 46, .builtin "setattr"⟩,
  ⟨PyData.keyHash P ⟨#[115,111,114,116,101,100]⟩, .str ⟨#[115,111,114,116,101,100]⟩ 47, .builtin "sorted"⟩,
  ⟨PyData.keyHash P ⟨#[115,117,109]⟩, .str ⟨#[115,117,109]⟩ 48, .builtin "sum"⟩,
  ⟨PyData.keyHash P ⟨#[118,97,114,115]⟩, .str ⟨#[118,97,114,115]⟩ 49, .builtin "vars"⟩,
  ⟨PyData.keyHash P ⟨#[78,111,110,101]⟩, .str ⟨#[78,111,110,101]⟩ 50, .none⟩,
  ⟨PyData.keyHash P ⟨#[69,108,108,105,112,115,105,115]⟩, .str ⟨#[69,108,108,105,112,115,105,115]⟩ 51, .ellipsis⟩,
  ⟨PyData.keyHash P ⟨#[78,111,116,73,109,112,108,101,109,101,110,116,101,100]⟩, .str ⟨#[78,111,116,73,109,112,108,101,109,101,110,116,101,100]⟩ 52, .notImplemented⟩,
  ⟨PyData.keyHash P ⟨#[70,97,108,115,101]⟩, .str ⟨#[70,97,108,115,101]⟩ 53, .bool false⟩,
  ⟨PyData.keyHash P ⟨#[84,114,117,101]⟩, .str ⟨#[84,114,117,101]⟩ 54, .bool true⟩,
  ⟨PyData.keyHash P ⟨#[98,111,111,108]⟩, .str ⟨#[98,111,111,108]⟩ 55, .type "bool"⟩,
  ⟨PyData.keyHash P ⟨#[109,101,109,111,114,121,118,105,101,119]⟩, .str ⟨#[109,101,109,111,114,121,118,105,101,119]⟩ 56, .type "memoryview"⟩,
  ⟨PyData.keyHash P ⟨#[98,121,116,101,97,114,114,97,121]⟩, .str ⟨#[98,121,116,101,97,114,114,97,121]⟩ 57, .type "bytearray"⟩,
  ⟨PyData.keyHash P ⟨#[98,121,116,101,115]⟩, .str ⟨#[98,121,116,101,115]⟩ 58, .type "bytes"⟩,
  ⟨PyData.keyHash P ⟨#[99,108,97,115,115,109,101,116,104,111,100]⟩, .str ⟨#[99,108,97,115,115,109,101,116,104,111,100]⟩ 59, .type "classmethod"⟩,
  ⟨PyData.keyHash P ⟨#[99,111,109,112,108,101,120]⟩, .str ⟨#[99,111,109,112,108,101,120]⟩ 60, .type "complex"⟩,
  ⟨PyData.keyHash P ⟨#[100,105,99,116]⟩, .str ⟨#[100,105,99,116]⟩ 61, .type "dict"⟩,
  ⟨PyData.keyHash P ⟨#[101,110,117,109,101,114,97,116,101]⟩, .str ⟨#[101,110,117,109,101,114,97,116,101]⟩ 62, .type "enumerate"⟩,
  ⟨PyData.keyHash P ⟨#[102,105,108,116,101,114]⟩, .str ⟨#[102,105,108,116,101,114]⟩ 63, .type "filter"⟩,
  ⟨PyData.keyHash P ⟨#[102,108,111,97,116]⟩, .str ⟨#[102,108,111,97,116]⟩ 64, .type "float"⟩,
  ⟨PyData.keyHash P ⟨#[102,114,111,122,101,110,115,101,116]⟩, .str ⟨#[102,114,111,122,101,110,115,101,116]⟩ 65, .type "frozenset"⟩,
  ⟨PyData.keyHash P ⟨#[112,114,111,112,101,114,116,121]⟩, .str ⟨#[112,114,111,112,101,114,116,121]⟩ 66, .type "property"⟩,
  ⟨PyData.keyHash P ⟨#[105,110,116]⟩, .str ⟨#[105,110,116]⟩ 67, .type "int"⟩,
  ⟨PyData.keyHash P ⟨#[108,105,115,116]⟩, .str ⟨#[108,105,115,116]⟩ 68, .type "list"⟩,
  ⟨PyData.keyHash P ⟨#[109,97,112]⟩, .str ⟨#[109,97,112]⟩ 69, .type "map"⟩,
  ⟨PyData.keyHash P ⟨#[111,98,106,101,99,116]⟩, .str ⟨#[111,98,106,101,99,116]⟩ 70, .type "object"⟩,
  ⟨PyData.keyHash P ⟨#[114,97,110,103,101]⟩, .str ⟨#[114,97,110,103,101]⟩ 71, .type "range"⟩,
  ⟨PyData.keyHash P ⟨#[114,101,118,101,114,115,101,100]⟩, .str ⟨#[114,101,118,101,114,115,101,100]⟩ 72, .type "reversed"⟩,
  ⟨PyData.keyHash P ⟨#[115,101,116]⟩, .str ⟨#[115,101,116]⟩ 73, .type "set"⟩,
  ⟨PyData.keyHash P ⟨#[115,108,105,99,101]⟩, .str ⟨#[115,108,105,99,101]⟩ 74, .type "slice"⟩,
  ⟨PyData.keyHash P ⟨#[115,116,97,116,105,99,109,101,116,104,111,100]⟩, .str ⟨#[115,116,97,116,105,99,109,101,116,104,111,100]⟩ 75, .type "staticmethod"⟩,
  ⟨PyData.keyHash P ⟨#[115,116,114]⟩, .str ⟨#[115,116,114]⟩ 76, .type "str"⟩,
  ⟨PyData.keyHash P ⟨#[115,117,112,101,114]⟩, .str ⟨#[115,117,112,101,114]⟩ 77, .type "super"⟩,
  ⟨PyData.keyHash P ⟨#[116,117,112,108,101]⟩, .str ⟨#[116,117,112,108,101]⟩ 78, .type "tuple"⟩,
  ⟨PyData.keyHash P ⟨#[116,121,112,101]⟩, .str ⟨#[116,121,112,101]⟩ 79, .type "type"⟩,
  ⟨PyData.keyHash P ⟨#[122,105,112]⟩, .str ⟨#[122,105,112]⟩ 80, .type "zip"⟩,
  ⟨PyData.keyHash P ⟨#[95,95,100,101,98,117,103,95,95]⟩, .str ⟨#[95,95,100,101,98,117,103,95,95]⟩ 81, .bool true⟩,
  ⟨PyData.keyHash P ⟨#[66,97,115,101,69,120,99,101,112,116,105,111,110]⟩, .str ⟨#[66,97,115,101,69,120,99,101,112,116,105,111,110]⟩ 82, .type "BaseException"⟩,
  ⟨PyData.keyHash P ⟨#[66,97,115,101,69,120,99,101,112,116,105,111,110,71,114,111,117,112]⟩, .str ⟨#[66,97,115,101,69,120,99,101,112,116,105,111,110,71,114,111,117,112]⟩ 83, .type "BaseExceptionGroup"⟩,
  ⟨PyData.keyHash P ⟨#[69,120,99,101,112,116,105,111,110]⟩, .str ⟨#[69,120,99,101,112,116,105,111,110]⟩ 84, .type "Exception"⟩,
  ⟨PyData.keyHash P ⟨#[71,101,110,101,114,97,116,111,114,69,120,105,116]⟩, .str ⟨#[71,101,110,101,114,97,116,111,114,69,120,105,116]⟩ 85, .type "GeneratorExit"⟩,
  ⟨PyData.keyHash P ⟨#[75,101,121,98,111,97,114,100,73,110,116,101,114,114,117,112,116]⟩, .str ⟨#[75,101,121,98,111,97,114,100,73,110,116,101,114,114,117,112,116]⟩ 86, .type "KeyboardInterrupt"⟩,
  ⟨PyData.keyHash P ⟨#[83,121,115,116,101,109,69,120,105,116]⟩, .str ⟨#[83,121,115,116,101,109,69,120,105,116]⟩ 87, .type "SystemExit"⟩,
  ⟨PyData.keyHash P ⟨#[65,114,105,116,104,109,101,116,105,99,69,114,114,111,114]⟩, .str ⟨#[65,114,105,116,104,109,101,116,105,99,69,114,114,111,114]⟩ 88, .type "ArithmeticError"⟩,
  ⟨PyData.keyHash P ⟨#[65,115,115,101,114,116,105,111,110,69,114,114,111,114]⟩, .str ⟨#[65,115,115,101,114,116,105,111,110,69,114,114,111,114]⟩ 89, .type "AssertionError"⟩,
  ⟨PyData.keyHash P ⟨#[65,116,116,114,105,98,117,116,101,69,114,114,111,114]⟩, .str ⟨#[65,116,116,114,105,98,117,116,101,69,114,114,111,114]⟩ 90, .type "AttributeError"⟩,
  ⟨PyData.keyHash P ⟨#[66,117,102,102,101,114,69,114,114,111,114]⟩, .str ⟨#[66,117,102,102,101,114,69,114,114,111,114]⟩ 91, .type "BufferError"⟩,
  ⟨PyData.keyHash P ⟨#[69,79,70,69,114,114,111,114]⟩, .str ⟨#[69,79,70,69,114,114,111,114]⟩ 92, .type "EOFError"⟩,
  ⟨PyData.keyHash P ⟨#[73,109,112,111,114,116,69,114,114,111,114]⟩, .str ⟨#[73,109,112,111,114,116,69,114,114,111,114]⟩ 93, .type "ImportError"⟩,
  ⟨PyData.keyHash P ⟨#[76,111,111,107,117,112,69,114,114,111,114]⟩, .str ⟨#[76,111,111,107,117,112,69,114,114,111,114]⟩ 94, .type "LookupError"⟩,
  ⟨PyData.keyHash P ⟨#[77,101,109,111,114,121,69,114,114,111,114]⟩, .str ⟨#[77,101,109,111,114,121,69,114,114,111,114]⟩ 95, .type "MemoryError"⟩,
  ⟨PyData.keyHash P ⟨#[78,97,109,101,69,114,114,111,114]⟩, .str ⟨#[78,97,109,101,69,114,114,111,114]⟩ 96, .type "NameError"⟩,
  ⟨PyData.keyHash P ⟨#[79,83,69,114,114,111,114]⟩, .str ⟨#[79,83,69,114,114,111,114]⟩ 97, .type "OSError"⟩,
  ⟨PyData.keyHash P ⟨#[82,101,102,101,114,101,110,99,101,69,114,114,111,114]⟩, .str ⟨#[82,101,102,101,114,101,110,99,101,69,114,114,111,114]⟩ 98, .type "ReferenceError"⟩,
  ⟨PyData.keyHash P ⟨#[82,117,110,116,105,109,101,69,114,114,111,114]⟩, .str ⟨#[82,117,110,116,105,109,101,69,114,114,111,114]⟩ 99, .type "RuntimeError"⟩,
  ⟨PyData.keyHash P ⟨#[83,116,111,112,65,115,121,110,99,73,116,101,114,97,116,105,111,110]⟩, .str ⟨#[83,116,111,112,65,115,121,110,99,73,116,101,114,97,116,105,111,110]⟩ 100, .type "StopAsyncIteration"⟩,
  ⟨PyData.keyHash P ⟨#[83,116,111,112,73,116,101,114,97,116,105,111,110]⟩, .str ⟨#[83,116,111,112,73,116,101,114,97,116,105,111,110]⟩ 101, .type "StopIteration"⟩,
  ⟨PyData.keyHash P ⟨#[83,121,110,116,97,120,69,114,114,111,114]⟩, .str ⟨#[83,121,110,116,97,120,69,114,114,111,114]⟩ 102, .type "SyntaxError"⟩,
  ⟨PyData.keyHash P ⟨#[83,121,115,116,101,109,69,114,114,111,114]⟩, .str ⟨#[83,121,115,116,101,109,69,114,114,111,114]⟩ 103, .type "SystemError"⟩,
  ⟨PyData.keyHash P ⟨#[84,121,112,101,69,114,114,111,114]⟩, .str ⟨#[84,121,112,101,69,114,114,111,114]⟩ 104, .type "TypeError"⟩,
  ⟨PyData.keyHash P ⟨#[86,97,108,117,101,69,114,114,111,114]⟩, .str ⟨#[86,97,108,117,101,69,114,114,111,114]⟩ 105, .type "ValueError"⟩,
  ⟨PyData.keyHash P ⟨#[87,97,114,110,105,110,103]⟩, .str ⟨#[87,97,114,110,105,110,103]⟩ 106, .type "Warning"⟩,
  ⟨PyData.keyHash P ⟨#[70,108,111,97,116,105,110,103,80,111,105,110,116,69,114,114,111,114]⟩, .str ⟨#[70,108,111,97,116,105,110,103,80,111,105,110,116,69,114,114,111,114]⟩ 107, .type "FloatingPointError"⟩,
  ⟨PyData.keyHash P ⟨#[79,118,101,114,102,108,111,119,69,114,114,111,114]⟩, .str ⟨#[79,118,101,114,102,108,111,119,69,114,114,111,114]⟩ 108, .type "OverflowError"⟩,
  ⟨PyData.keyHash P ⟨#[90,101,114,111,68,105,118,105,115,105,111,110,69,114,114,111,114]⟩, .str ⟨#[90,101,114,111,68,105,118,105,115,105,111,110,69,114,114,111,114]⟩ 109, .type "ZeroDivisionError"⟩,
  ⟨PyData.keyHash P ⟨#[66,121,116,101,115,87,97,114,110,105,110,103]⟩, .str ⟨#[66,121,116,101,115,87,97,114,110,105,110,103]⟩ 110, .type "BytesWarning"⟩,
  ⟨PyData.keyHash P ⟨#[68,101,112,114,101,99,97,116,105,111,110,87,97,114,110,105,110,103]⟩, .str ⟨#[68,101,112,114,101,99,97,116,105,111,110,87,97,114,110,105,110,103]⟩ 111, .type "DeprecationWarning"⟩,
  ⟨PyData.keyHash P ⟨#[69,110,99,111,100,105,110,103,87,97,114,110,105,110,103]⟩, .str ⟨#[69,110,99,111,100,105,110,103,87,97,114,110,105,110,103]⟩ 112, .type "EncodingWarning"⟩,
  ⟨PyData.keyHash P ⟨#[70,117,116,117,114,101,87,97,114,110,105,110,103]⟩, .str ⟨#[70,117,116,117,114,101,87,97,114,110,105,110,103]⟩ 113, .type "FutureWarning"⟩,
  ⟨PyData.keyHash P ⟨#[73,109,112,111,114,116,87,97,114,110,105,110,103]⟩, .str ⟨#[73,109,112,111,114,116,87,97,114,110,105,110,103]⟩ 114, .type "ImportWarning"⟩,
  ⟨PyData.keyHash P ⟨#[80,101,110,100,105,110,103,68,101,112,114,101,99,97,116,105,111,110,87,97,114,110,105,110,103]⟩, .str ⟨#[80,101,110,100,105,110,103,68,101,112,114,101,99,97,116,105,111,110,87,97,114,110,105,110,103]⟩ 115, .type "PendingDeprecationWarning"⟩,
  ⟨PyData.keyHash P ⟨#[82,101,115,111,117,114,99,101,87,97,114,110,105,110,103]⟩, .str ⟨#[82,101,115,111,117,114,99,101,87,97,114,110,105,110,103]⟩ 116, .type "ResourceWarning"⟩,
  ⟨PyData.keyHash P ⟨#[82,117,110,116,105,109,101,87,97,114,110,105,110,103]⟩, .str ⟨#[82,117,110,116,105,109,101,87,97,114,110,105,110,103]⟩ 117, .type "RuntimeWarning"⟩,
  ⟨PyData.keyHash P ⟨#[83,121,110,116,97,120,87,97,114,110,105,110,103]⟩, .str ⟨#[83,121,110,116,97,120,87,97,114,110,105,110,103]⟩ 118, .type "SyntaxWarning"⟩,
  ⟨PyData.keyHash P ⟨#[85,110,105,99,111,100,101,87,97,114,110,105,110,103]⟩, .str ⟨#[85,110,105,99,111,100,101,87,97,114,110,105,110,103]⟩ 119, .type "UnicodeWarning"⟩,
  ⟨PyData.keyHash P ⟨#[85,115,101,114,87,97,114,110,105,110,103]⟩, .str ⟨#[85,115,101,114,87,97,114,110,105,110,103]⟩ 120, .type "UserWarning"⟩,
  ⟨PyData.keyHash P ⟨#[66,108,111,99,107,105,110,103,73,79,69,114,114,111,114]⟩, .str ⟨#[66,108,111,99,107,105,110,103,73,79,69,114,114,111,114]⟩ 121, .type "BlockingIOError"⟩,
  ⟨PyData.keyHash P ⟨#[67,104,105,108,100,80,114,111,99,101,115,115,69,114,114,111,114]⟩, .str ⟨#[67,104,105,108,100,80,114,111,99,101,115,115,69,114,114,111,114]⟩ 122, .type "ChildProcessError"⟩,
  ⟨PyData.keyHash P ⟨#[67,111,110,110,101,99,116,105,111,110,69,114,114,111,114]⟩, .str ⟨#[67,111,110,110,101,99,116,105,111,110,69,114,114,111,114]⟩ 123, .type "ConnectionError"⟩,
  ⟨PyData.keyHash P ⟨#[70,105,108,101,69,120,105,115,116,115,69,114,114,111,114]⟩, .str ⟨#[70,105,108,101,69,120,105,115,116,115,69,114,114,111,114]⟩ 124, .type "FileExistsError"⟩,
  ⟨PyData.keyHash P ⟨#[70,105,108,101,78,111,116,70,111,117,110,100,69,114,114,111,114]⟩, .str ⟨#[70,105,108,101,78,111,116,70,111,117,110,100,69,114,114,111,114]⟩ 125, .type "FileNotFoundError"⟩,
  ⟨PyData.keyHash P ⟨#[73,110,116,101,114,114,117,112,116,101,100,69,114,114,111,114]⟩, .str ⟨#[73,110,116,101,114,114,117,112,116,101,100,69,114,114,111,114]⟩ 126, .type "InterruptedError"⟩,
  ⟨PyData.keyHash P ⟨#[73,115,65,68,105,114,101,99,116,111,114,121,69,114,114,111,114]⟩, .str ⟨#[73,115,65,68,105,114,101,99,116,111,114,121,69,114,114,111,114]⟩ 127, .type "IsADirectoryError"⟩,
  ⟨PyData.keyHash P ⟨#[78,111,116,65,68,105,114,101,99,116,111,114,121,69,114,114,111,114]⟩, .str ⟨#[78,111,116,65,68,105,114,101,99,116,111,114,121,69,114,114,111,114]⟩ 128, .type "NotADirectoryError"⟩,
  ⟨PyData.keyHash P ⟨#[80,101,114,109,105,115,115,105,111,110,69,114,114,111,114]⟩, .str ⟨#[80,101,114,109,105,115,115,105,111,110,69,114,114,111,114]⟩ 129, .type "PermissionError"⟩,
  ⟨PyData.keyHash P ⟨#[80,114,111,99,101,115,115,76,111,111,107,117,112,69,114,114,111,114]⟩, .str ⟨#[80,114,111,99,101,115,115,76,111,111,107,117,112,69,114,114,111,114]⟩ 130, .type "ProcessLookupError"⟩,
  ⟨PyData.keyHash P ⟨#[84,105,109,101,111,117,116,69,114,114,111,114]⟩, .str ⟨#[84,105,109,101,111,117,116,69,114,114,111,114]⟩ 131, .type "TimeoutError"⟩,
  ⟨PyData.keyHash P ⟨#[73,110,100,101,110,116,97,116,105,111,110,69,114,114,111,114]⟩, .str ⟨#[73,110,100,101,110,116,97,116,105,111,110,69,114,114,111,114]⟩ 132, .type "IndentationError"⟩,
  ⟨PyData.keyHash P ⟨#[95,73,110,99,111,109,112,108,101,116,101,73,110,112,117,116,69,114,114,111,114]⟩, .str ⟨#[95,73,110,99,111,109,112,108,101,116,101,73,110,112,117,116,69,114,114,111,114]⟩ 133, .type "_IncompleteInputError"⟩,
  ⟨PyData.keyHash P ⟨#[73,110,100,101,120,69,114,114,111,114]⟩, .str ⟨#[73,110,100,101,120,69,114,114,111,114]⟩ 134, .type "IndexError"⟩,
  ⟨PyData.keyHash P ⟨#[75,101,121,69,114,114,111,114]⟩, .str ⟨#[75,101,121,69,114,114,111,114]⟩ 135, .type "KeyError"⟩,
  ⟨PyData.keyHash P ⟨#[77,111,100,117,108,101,78,111,116,70,111,117,110,100,69,114,114,111,114]⟩, .str ⟨#[77,111,100,117,108,101,78,111,116,70,111,117,110,100,69,114,114,111,114]⟩ 136, .type "ModuleNotFoundError"⟩,
  ⟨PyData.keyHash P ⟨#[78,111,116,73,109,112,108,101,109,101,110,116,101,100,69,114,114,111,114]⟩, .str ⟨#[78,111,116,73,109,112,108,101,109,101,110,116,101,100,69,114,114,111,114]⟩ 137, .type "NotImplementedError"⟩,
  ⟨PyData.keyHash P ⟨#[80,121,116,104,111,110,70,105,110,97,108,105,122,97,116,105,111,110,69,114,114,111,114]⟩, .str ⟨#[80,121,116,104,111,110,70,105,110,97,108,105,122,97,116,105,111,110,69,114,114,111,114]⟩ 138, .type "PythonFinalizationError"⟩,
  ⟨PyData.keyHash P ⟨#[82,101,99,117,114,115,105,111,110,69,114,114,111,114]⟩, .str ⟨#[82,101,99,117,114,115,105,111,110,69,114,114,111,114]⟩ 139, .type "RecursionError"⟩,
  ⟨PyData.keyHash P ⟨#[85,110,98,111,117,110,100,76,111,99,97,108,69,114,114,111,114]⟩, .str ⟨#[85,110,98,111,117,110,100,76,111,99,97,108,69,114,114,111,114]⟩ 140, .type "UnboundLocalError"⟩,
  ⟨PyData.keyHash P ⟨#[85,110,105,99,111,100,101,69,114,114,111,114]⟩, .str ⟨#[85,110,105,99,111,100,101,69,114,114,111,114]⟩ 141, .type "UnicodeError"⟩,
  ⟨PyData.keyHash P ⟨#[66,114,111,107,101,110,80,105,112,101,69,114,114,111,114]⟩, .str ⟨#[66,114,111,107,101,110,80,105,112,101,69,114,114,111,114]⟩ 142, .type "BrokenPipeError"⟩,
  ⟨PyData.keyHash P ⟨#[67,111,110,110,101,99,116,105,111,110,65,98,111,114,116,101,100,69,114,114,111,114]⟩, .str ⟨#[67,111,110,110,101,99,116,105,111,110,65,98,111,114,116,101,100,69,114,114,111,114]⟩ 143, .type "ConnectionAbortedError"⟩,
  ⟨PyData.keyHash P ⟨#[67,111,110,110,101,99,116,105,111,110,82,101,102,117,115,101,100,69,114,114,111,114]⟩, .str ⟨#[67,111,110,110,101,99,116,105,111,110,82,101,102,117,115,101,100,69,114,114,111,114]⟩ 144, .type "ConnectionRefusedError"⟩,
  ⟨PyData.keyHash P ⟨#[67,111,110,110,101,99,116,105,111,110,82,101,115,101,116,69,114,114,111,114]⟩, .str ⟨#[67,111,110,110,101,99,116,105,111,110,82,101,115,101,116,69,114,114,111,114]⟩ 145, .type "ConnectionResetError"⟩,
  ⟨PyData.keyHash P ⟨#[84,97,98,69,114,114,111,114]⟩, .str ⟨#[84,97,98,69,114,114,111,114]⟩ 146, .type "TabError"⟩,
  ⟨PyData.keyHash P ⟨#[85,110,105,99,111,100,101,68,101,99,111,100,101,69,114,114,111,114]⟩, .str ⟨#[85,110,105,99,111,100,101,68,101,99,111,100,101,69,114,114,111,114]⟩ 147, .type "UnicodeDecodeError"⟩,
  ⟨PyData.keyHash P ⟨#[85,110,105,99,111,100,101,69,110,99,111,100,101,69,114,114,111,114]⟩, .str ⟨#[85,110,105,99,111,100,101,69,110,99,111,100,101,69,114,114,111,114]⟩ 148, .type "UnicodeEncodeError"⟩,
  ⟨PyData.keyHash P ⟨#[85,110,105,99,111,100,101,84,114,97,110,115,108,97,116,101,69,114,114,111,114]⟩, .str ⟨#[85,110,105,99,111,100,101,84,114,97,110,115,108,97,116,101,69,114,114,111,114]⟩ 149, .type "UnicodeTranslateError"⟩,
  ⟨PyData.keyHash P ⟨#[69,120,99,101,112,116,105,111,110,71,114,111,117,112]⟩, .str ⟨#[69,120,99,101,112,116,105,111,110,71,114,111,117,112]⟩ 150, .type "ExceptionGroup"⟩,
  ⟨PyData.keyHash P ⟨#[69,110,118,105,114,111,110,109,101,110,116,69,114,114,111,114]⟩, .str ⟨#[69,110,118,105,114,111,110,109,101,110,116,69,114,114,111,114]⟩ 151, .type "OSError"⟩,
  ⟨PyData.keyHash P ⟨#[73,79,69,114,114,111,114]⟩, .str ⟨#[73,79,69,114,114,111,114]⟩ 152, .type "OSError"⟩,
  ⟨PyData.keyHash P ⟨#[111,112,101,110]⟩, .str ⟨#[111,112,101,110]⟩ 153, .builtin "open"⟩,
  ⟨PyData.keyHash P ⟨#[113,117,105,116]⟩, .str ⟨#[113,117,105,116]⟩ 154, .builtin "builtins.quit#opaque"⟩,
  ⟨PyData.keyHash P ⟨#[101,120,105,116]⟩, .str ⟨#[101,120,105,116]⟩ 155, .builtin "builtins.exit#opaque"⟩,
  ⟨PyData.keyHash P ⟨#[99,111,112,121,114,105,103,104,116]⟩, .str ⟨#[99,111,112,121,114,105,103,104,116]⟩ 156, .builtin "builtins.copyright#opaque"⟩,
  ⟨PyData.keyHash P ⟨#[99,114,101,100,105,116,115]⟩, .str ⟨#[99,114,101,100,105,116,115]⟩ 157, .builtin "builtins.credits#opaque"⟩,
  ⟨PyData.keyHash P ⟨#[108,105,99,101,110,115,101]⟩, .str ⟨#[108,105,99,101,110,115,101]⟩ 158, .builtin "builtins.license#opaque"⟩,
  ⟨PyData.keyHash P ⟨#[104,101,108,112]⟩, .str ⟨#[104,101,108,112]⟩ 159, .builtin "builtins.help#opaque"⟩]
theorem blt_at {w : World} {h : Heap} (X : (hdK.heap_1 w.params).In h) : h.get? (nat_lit 0) = some ⟨.type "dict", none, .dict (bltA w.params) 159, #[]⟩ :=
  X _ _ (by kernel_rfl)
end Mine
end
section
open PySem PySem.W PySem.W.X PyProof.Rows PySem.Calls
namespace Mine
theorem Ex.extBut {I : Addr} {h h' : Heap} (x : Heap.ExtBut I h h') : Ex [I] h h' := fun b o n e => x b o (fun q => n (by simp [q])) e
theorem range_size (n : Nat) : Builtin.Range.rangeSize 0 (n : Int) 1 = (n : Int) := by
  unfold Builtin.Range.rangeSize
  split
  · split
    · simp
    · omega
  · omega
theorem fits_long (i : Int) (h0 : 0 ≤ i) (h1 : i ≤ 1000001) : Builtin.Range.rangeFitsLong i = true :=
  Bool.and_eq_true_iff.mpr ⟨decide_eq_true (by omega), decide_eq_true (by omega)⟩
theorem range_small (n : Nat) (hn : n ≤ 1000000) : Builtin.Range.small 0 (n : Int) 1 = true := by
  unfold Builtin.Range.small
  rw [range_size, fits_long 0 (by omega) (by omega), fits_long n (by omega) (by omega), fits_long 1 (by omega) (by omega), if_pos (by decide), fits_long _ (by omega) (by omega), Bool.or_true]
  rfl

section
variable {prog : Program} {w : World} {A : Around} {env : Env} {s : Shared}
/-- the end of a turn -/
def Turn (s : Shared) (Q : Flow → Shared → Prop) (J : Heap → Prop) (f : Flow) (s₃ : Shared) : Prop := match f with
  | .next | .cont => ∃ h' t', s₃ = St s h' t' ∧ J h'
  | .brk => Q .next s₃
  | .ret v => Q (.ret v) s₃

theorem for_walks {h₂ : Heap} {t₂ : Nat} {I : Addr} {fp : List Addr} {n : Nat} {P : Nat → Value → Prop} {Stt : Nat → Heap → Prop} {x : Str} {px : Pos} {body : List Stmt} {R : Result → Shared → Prop} (W : Walks prog w A I fp [I] n P Stt)
    (hx : env.kindOf x = some .local) (hp : (env.scope.kind == .class || (env.scope.kind == .module && env.locals != env.globals)) = false) (Inv : Nat → Heap → Prop)
    (st0 : Stt 0 h₂) (i0 : Inv 0 h₂)
    (turn : ∀ i v h' h₁ t₁, i < n → Inv i h' → P i v → Ex [I] h' h₁ → Stt (i + 1) h₁ →
      wpAny (model prog w) A (storeName env x v) (fun _ s₂ => wpAny (model prog w) A (execs body env) (Turn s (fun f s' => R (.ok f) s') (fun h' => Inv (i + 1) h' ∧ Stt (i + 1) h')) (fun _ _ => False) s₂) (fun _ _ => False) (St s h₁ t₁))
    (done : ∀ h' h₁ t₁, Inv n h' → Ex [I] h' h₁ → R (.ok .next) (St s h₁ t₁)) :
    codeAny (model prog w) A (.forLoop (.Name x px) (.ref I) body [] env) R (St s h₂ t₂) := by
  refine codeAny_forLoop (fun k s' => ∃ h' t' i, s' = St s h' t' ∧ Stt i h' ∧ Inv i h' ∧ i ≤ n ∧ k = n + 1 - i) ?_ (n + 1) ⟨h₂, t₂, 0, rfl, st0, i0, Nat.zero_le _, rfl⟩
  rintro k s' ⟨h', t', i, rfl, hst, hi, hle, rfl⟩
  by_cases hlt : i < n
  · refine W.item i _ _ _ hlt hst fun v h₁ tk₁ hP hst₁ hk₁ => ?_
    have e : Ex [I] h' h₁ := fun b o nb q => hk₁ b o nb q
    refine wpAny_assign_Name (wpAny_mono (turn i v h' h₁ tk₁ hlt hi hP e hst₁) (fun _ s₂ h₂ => ?_) fun _ _ x => x.elim)
    refine wpAny_mono h₂ (fun f s₃ h₃ => ?_) fun _ _ x => x.elim
    cases f with
    | next => obtain ⟨h', t', rfl, a, b⟩ := h₃; exact ⟨n + 1 - (i + 1), by omega, h', t', i + 1, rfl, b, a, hlt, rfl⟩
    | cont => obtain ⟨h', t', rfl, a, b⟩ := h₃; exact ⟨n + 1 - (i + 1), by omega, h', t', i + 1, rfl, b, a, hlt, rfl⟩
    | brk => exact h₃
    | ret v => exact h₃
  · have hin : i = n := by omega
    subst hin
    refine W.done _ _ _ hst fun h₁ tk₁ hk₁ => wpAny_execs_nil ?_
    exact done h' h₁ tk₁ hi fun b o nb q => hk₁ b o nb q

/-- for x in range(n) -/
theorem for_range {h : Heap} {t : Nat} {n : Nat} {x : Str} {px pos : Pos} {iter : Expr} {body : List Stmt} {Q : Flow → Shared → Prop} (hn : n ≤ 1000000) (hh : A.handled = none)
    (Inv : Addr → Nat → Heap → Prop)
    (he : ∀ Qe : Value → Shared → Prop, (∀ r h₁ t₁, h.StaysIn h₁ → (∃ u1 u2 u3, IsRange h₁ r 0 n 1 u1 u2 u3) → Qe (.ref r) (St s h₁ t₁)) → wpAny (model prog w) A (eval iter env) Qe (fun _ _ => False) (St s h t))
    (inv0 : ∀ h₂ I, h.StaysIn h₂ → h.get? I = none → Inv I 0 h₂)
    (turn : ∀ I i u h' h₁ t₁, i < n → Inv I i h' → Ex [I] h' h₁ → (∃ o, h₁.get? I = some o) →
      wpAny (model prog w) A (storeName env x (.int i u)) (fun _ s₂ => wpAny (model prog w) A (execs body env) (Turn s Q (fun h' => Inv I (i + 1) h' ∧ h'.get? I = h₁.get? I)) (fun _ _ => False) s₂) (fun _ _ => False) (St s h₁ t₁))
    (done : ∀ I h' h₁ t₁, Inv I n h' → Ex [I] h' h₁ → Q .next (St s h₁ t₁))
    (hx : env.kindOf x = some .local := by rfl) (hp : (env.scope.kind == .class || (env.scope.kind == .module && env.locals != env.globals)) = false := by rfl)
    (hs : ∀ x, foldedSetIterable iter env x = pure x := by intro _; rfl) :
    wpAny (model prog w) A (exec (.For (.Name x px) iter body [] pos) env) Q (fun _ _ => False) (St s h t) := by
  refine wpAny_For (he _ fun r h₁ t₁ k₁ ⟨u1, u2, u3, hr⟩ => ?_) hs
  refine wpAny_pyIter_range hr (range_small n hn) ?_
  rw [range_size]
  have W := Walks.range (prog := prog) (w := w) hh h₁.objs.size 0 1 n
  have hI : h.get? h₁.objs.size = none := by
    cases q : h.get? h₁.objs.size with
    | none => rfl
    | some o => exact absurd (Heap.lt_size (k₁ _ _ q)) (Nat.lt_irrefl _)
  have k₂ := stays_trans k₁ (stays_push h₁ { cls := .type "range_iterator", data := .fields #[rawInt 0, rawInt n, rawInt 1] })
  refine codeAny_mono (for_walks (s := s) (R := fun r s' => match r with | .ok f => Q f s' | .error _ => False) W hx hp (fun i h' => Inv h₁.objs.size i h') ?_ (inv0 _ _ k₂ hI) ?_ ?_) fun r s' q => ?_
  · have := Heap.get?_push_size h₁ (o := { cls := .type "range_iterator", data := .fields #[rawInt 0, rawInt n, rawInt 1] }) rfl
    simpa using this
  · rintro i v h' h₂ t₂ hi hI' ⟨u, rfl⟩ e hst
    have e1 : (0 : Int) + (i : Int) * 1 = (i : Int) := by omega
    rw [e1]
    refine wpAny_mono (turn _ i u h' h₂ t₂ hi hI' e ⟨_, hst⟩) (fun _ s₂ hk => wpAny_mono hk (fun f s₃ h₃ => ?_) fun _ _ x => x) fun _ _ x => x
    have fin : (∃ h' t', s₃ = St s h' t' ∧ Inv h₁.objs.size (i + 1) h' ∧ h'.get? h₁.objs.size = h₂.get? h₁.objs.size) → ∃ h' t', s₃ = St s h' t' ∧ Inv h₁.objs.size (i + 1) h' ∧ IsRangeIter h' h₁.objs.size (0 + ((i + 1 : Nat) : Int) * 1) ((n : Int) - ((i + 1 : Nat) : Int)) 1 := by
      rintro ⟨h', t', e, a, b⟩
      exact ⟨h', t', e, a, b.trans hst⟩
    cases f with
    | next => exact fin h₃
    | cont => exact fin h₃
    | brk => exact h₃
    | ret v => exact h₃
  · intro h' h₂ t₂ hI' e
    exact done _ h' h₂ t₂ hI' e
  · cases r with
    | ok f => exact q
    | error e => exact q.elim

/-- for x in a list that the turns let be -/
theorem for_list {h : Heap} {t : Nat} {xs : Array Value} {x : Str} {px pos : Pos} {iter : Expr} {body : List Stmt} {Q : Flow → Shared → Prop} (hh : A.handled = none)
    (Inv : Addr → Addr → Nat → Heap → Prop)
    (he : ∀ Qe : Value → Shared → Prop, (∀ r h₁ t₁, h.StaysIn h₁ → h₁.IsList r xs → Qe (.ref r) (St s h₁ t₁)) → wpAny (model prog w) A (eval iter env) Qe (fun _ _ => False) (St s h t))
    (inv0 : ∀ h₂ I r, h.StaysIn h₂ → h.get? I = none → I ≠ r → Inv I r 0 h₂)
    (turn : ∀ I r i v h' h₁ t₁, xs[i]? = some v → Inv I r i h' → Ex [I] h' h₁ → (∃ o, h₁.get? I = some o) → (∃ o, h₁.get? r = some o) →
      wpAny (model prog w) A (storeName env x v) (fun _ s₂ => wpAny (model prog w) A (execs body env) (Turn s Q (fun h' => Inv I r (i + 1) h' ∧ h'.get? I = h₁.get? I ∧ h'.get? r = h₁.get? r)) (fun _ _ => False) s₂) (fun _ _ => False) (St s h₁ t₁))
    (done : ∀ I r h' h₁ t₁, Inv I r xs.size h' → Ex [I] h' h₁ → Q .next (St s h₁ t₁))
    (hx : env.kindOf x = some .local := by rfl) (hp : (env.scope.kind == .class || (env.scope.kind == .module && env.locals != env.globals)) = false := by rfl)
    (hs : ∀ x, foldedSetIterable iter env x = pure x := by intro _; rfl) :
    wpAny (model prog w) A (exec (.For (.Name x px) iter body [] pos) env) Q (fun _ _ => False) (St s h t) := by
  refine wpAny_For (he _ fun r h₁ t₁ k₁ hl => ?_) hs
  refine wpAny_pyIter_list hl ?_
  obtain ⟨ol, hol, hol2⟩ := id hl
  have hrI : r ≠ h₁.objs.size := Nat.ne_of_lt (Heap.lt_size hol)
  have W := Walks.list (prog := prog) (w := w) hh h₁.objs.size r hrI xs
  have hI : h.get? h₁.objs.size = none := by
    cases q : h.get? h₁.objs.size with
    | none => rfl
    | some o => exact absurd (Heap.lt_size (k₁ _ _ q)) (Nat.lt_irrefl _)
  have k₂ := stays_trans k₁ (stays_push h₁ { cls := .type "list_iterator", data := .fields #[.ref r, .int 0 0] })
  refine codeAny_mono (for_walks (s := s) (R := fun r s' => match r with | .ok f => Q f s' | .error _ => False) W hx hp (fun i h' => Inv h₁.objs.size r i h') ?_ (inv0 _ _ _ k₂ hI (Ne.symm hrI)) ?_ ?_) fun r s' q => ?_
  · exact ⟨⟨_, Heap.get?_push_size _ rfl, rfl, rfl⟩, ⟨ol, Heap.get?_push_of_some _ hol, hol2⟩⟩
  · rintro i v h' h₂ t₂ hi hI' hP e hst
    obtain ⟨⟨oI, hoI, hoI2⟩, ⟨or, hor, hor2⟩⟩ := hst
    refine wpAny_mono (turn _ r i v h' h₂ t₂ hP hI' e ⟨_, hoI⟩ ⟨_, hor⟩) (fun _ s₂ hk => wpAny_mono hk (fun f s₃ h₃ => ?_) fun _ _ x => x) fun _ _ x => x
    have fin : (∃ h' t', s₃ = St s h' t' ∧ Inv h₁.objs.size r (i + 1) h' ∧ h'.get? h₁.objs.size = h₂.get? h₁.objs.size ∧ h'.get? r = h₂.get? r) → ∃ h' t', s₃ = St s h' t' ∧ Inv h₁.objs.size r (i + 1) h' ∧ (h'.IsListIter h₁.objs.size r (i + 1) ∧ h'.IsList r xs) := by
      rintro ⟨h', t', e, a, b, c⟩
      exact ⟨h', t', e, a, ⟨oI, b.trans hoI, hoI2⟩, ⟨or, c.trans hor, hor2⟩⟩
    cases f with
    | next => exact fin h₃
    | cont => exact fin h₃
    | brk => exact h₃
    | ret v => exact h₃
  · intro h' h₂ t₂ hI' e
    exact done _ r h' h₂ t₂ hI' e
  · cases r with
    | ok f => exact q
    | error e => exact q.elim
end
end Mine
end
section
open PySem PySem.W PySem.W.X PyProof.Rows PySem.Calls
namespace Mine
section
variable {prog : Program} {w : World} {A : Around} {env : Env} {s : Shared}
/-- for x in a list that the turns let be -/
theorem for_list2 {h : Heap} {t : Nat} {P : Addr → Array Value → Prop} {x : Str} {px pos : Pos} {iter : Expr} {body : List Stmt} {Q : Flow → Shared → Prop} (hh : A.handled = none)
    (Inv : Addr → Addr → Nat → Heap → Prop)
    (he : ∀ Qe : Value → Shared → Prop, (∀ r h₁ t₁ xs, h.StaysIn h₁ → h₁.IsList r xs → P r xs → Qe (.ref r) (St s h₁ t₁)) → wpAny (model prog w) A (eval iter env) Qe (fun _ _ => False) (St s h t))
    (inv0 : ∀ h₂ I r, h.StaysIn h₂ → h.get? I = none → I ≠ r → (∃ xs, P r xs) → Inv I r 0 h₂)
    (turn : ∀ I r i v h' h₁ t₁ xs, P r xs → xs[i]? = some v → Inv I r i h' → Ex [I] h' h₁ → (∃ o, h₁.get? I = some o) → (∃ o, h₁.get? r = some o) →
      wpAny (model prog w) A (storeName env x v) (fun _ s₂ => wpAny (model prog w) A (execs body env) (Turn s Q (fun h' => Inv I r (i + 1) h' ∧ h'.get? I = h₁.get? I ∧ h'.get? r = h₁.get? r)) (fun _ _ => False) s₂) (fun _ _ => False) (St s h₁ t₁))
    (done : ∀ I r n h' h₁ t₁, Inv I r n h' → Ex [I] h' h₁ → Q .next (St s h₁ t₁))
    (hx : env.kindOf x = some .local := by rfl) (hp : (env.scope.kind == .class || (env.scope.kind == .module && env.locals != env.globals)) = false := by rfl)
    (hs : ∀ x, foldedSetIterable iter env x = pure x := by intro _; rfl) :
    wpAny (model prog w) A (exec (.For (.Name x px) iter body [] pos) env) Q (fun _ _ => False) (St s h t) := by
  refine wpAny_For (he _ fun r h₁ t₁ xs k₁ hl hPx => ?_) hs
  refine wpAny_pyIter_list hl ?_
  obtain ⟨ol, hol, hol2⟩ := id hl
  have hrI : r ≠ h₁.objs.size := Nat.ne_of_lt (Heap.lt_size hol)
  have W := Walks.list (prog := prog) (w := w) hh h₁.objs.size r hrI xs
  have hI : h.get? h₁.objs.size = none := by
    cases q : h.get? h₁.objs.size with
    | none => rfl
    | some o => exact absurd (Heap.lt_size (k₁ _ _ q)) (Nat.lt_irrefl _)
  have k₂ := stays_trans k₁ (stays_push h₁ { cls := .type "list_iterator", data := .fields #[.ref r, .int 0 0] })
  refine codeAny_mono (for_walks (s := s) (R := fun r s' => match r with | .ok f => Q f s' | .error _ => False) W hx hp (fun i h' => Inv h₁.objs.size r i h') ?_ (inv0 _ _ _ k₂ hI (Ne.symm hrI) ⟨xs, hPx⟩) ?_ ?_) fun r s' q => ?_
  · exact ⟨⟨_, Heap.get?_push_size _ rfl, rfl, rfl⟩, ⟨ol, Heap.get?_push_of_some _ hol, hol2⟩⟩
  · rintro i v h' h₂ t₂ hi hI' hP e hst
    obtain ⟨⟨oI, hoI, hoI2⟩, ⟨or, hor, hor2⟩⟩ := hst
    refine wpAny_mono (turn _ r i v h' h₂ t₂ xs hPx hP hI' e ⟨_, hoI⟩ ⟨_, hor⟩) (fun _ s₂ hk => wpAny_mono hk (fun f s₃ h₃ => ?_) fun _ _ x => x) fun _ _ x => x
    have fin : (∃ h' t', s₃ = St s h' t' ∧ Inv h₁.objs.size r (i + 1) h' ∧ h'.get? h₁.objs.size = h₂.get? h₁.objs.size ∧ h'.get? r = h₂.get? r) → ∃ h' t', s₃ = St s h' t' ∧ Inv h₁.objs.size r (i + 1) h' ∧ (h'.IsListIter h₁.objs.size r (i + 1) ∧ h'.IsList r xs) := by
      rintro ⟨h', t', e, a, b, c⟩
      exact ⟨h', t', e, a, ⟨oI, b.trans hoI, hoI2⟩, ⟨or, c.trans hor, hor2⟩⟩
    cases f with
    | next => exact fin h₃
    | cont => exact fin h₃
    | brk => exact h₃
    | ret v => exact h₃
  · intro h' h₂ t₂ hI' e
    exact done _ r _ h' h₂ t₂ hI' e
  · cases r with
    | ok f => exact q
    | error e => exact q.elim
end
end Mine
end
section
open PySem PySem.W PySem.W.X PyProof.Rows PySem.Calls
namespace Mine
theorem fill : (fun (_ : OpenLaw) (_ : Params → Frag) => True) PySem.Challenge.rw_kl0193_01 hdK.heap_1 := by
  k_fill
  trivial
/-- None or an object that is no tuple -/
def Ob (h : Heap) (v : Value) : Prop := v = .none ∨ ∃ a o, v = .ref a ∧ h.get? a = some o ∧ o.cls ≠ .type "tuple"
theorem Ob.stays {h h' : Heap} {v : Value} (x : Ob h v) (k : h.StaysIn h') : Ob h' v := x.imp id fun ⟨a, o, e, g, n⟩ => ⟨a, o, e, k _ _ g, n⟩
theorem none_of {h h' : Heap} {a : Addr} (k : h.StaysIn h') (e : h'.get? a = none) : h.get? a = none := by
  cases q : h.get? a with
  | none => rfl
  | some o => rw [k _ _ q] at e; cases e
theorem ne_of {h : Heap} {a b : Addr} {o : Obj} (x : h.get? a = some o) (y : h.get? b = none) : a ≠ b := fun e => by rw [e, y] at x; cases x
theorem size_none (h : Heap) : h.get? h.objs.size = none := Heap.get?_none_of_le (Nat.le_refl _)
theorem Ex.two {I L : Addr} {h h' h'' : Heap} (x : Ex [I] h h') (y : Ex [L] h' h'') : Ex [I, L] h h'' := (x.mono (by simp)).trans (y.mono (by simp))

section
variable {prog : Program} {w : World} {mg mb : Str → Option Value} {h₀ : Heap} {A : Around} {E : Value → Shared → Prop} {s : Shared}
theorem fr_ex {S : List Addr} {h h' : Heap} {L : Addr} {m : Str → Option Value} (F : Fr h₀ L h m) (e : Ex S h h') (hL : L ∉ S) (h0 : ∀ b ∈ S, h₀.get? b = none) : Fr h₀ L h' m :=
  ⟨F.ns.at' fun o q => e L o hL q, fun b o q => e b o (fun hb => by rw [h0 b hb] at q; cases q) (F.keep b o q), F.above⟩
theorem fr_low {h : Heap} {L : Addr} {m : Str → Option Value} (F : Fr h₀ L h m) : h₀.get? L = none := Heap.get?_none_of_le F.above
theorem fr_live {h : Heap} {L : Addr} {m : Str → Option Value} (F : Fr h₀ L h m) : ∃ o, h.get? L = some o := let ⟨o, _, _, ho, _⟩ := F.ns; ⟨o, ho⟩
theorem fr_ne {h : Heap} {L I : Addr} {m : Str → Option Value} (F : Fr h₀ L h m) (e : h.get? I = none) : I ≠ L := by
  rintro rfl
  obtain ⟨o, ho⟩ := fr_live F
  rw [e] at ho; cases ho

theorem is_ob {a b : Value} {Q : Value → Shared → Prop} (x : Ob s.heap a) (y : Ob s.heap b) (h : Q (.bool (decide (a = b))) s) : wpAny (model prog w) A (compareOp .Is a b) Q E s := by
  rcases x with rfl | ⟨ax, ox, rfl, gx, nx⟩
  · rcases y with rfl | ⟨ay, oy, rfl, gy, ny⟩
    · exact wpAny_is_plain rfl h
    · exact wpAny_is_plain rfl h
  · rcases y with rfl | ⟨ay, oy, rfl, gy, ny⟩
    · exact wpAny_is_plain rfl h
    · by_cases q : ax = ay
      · subst q; rw [decide_eq_true rfl] at h; exact wpAny_is_ref_self h
      · rw [decide_eq_false (fun z => q (Value.ref.inj z))] at h; exact wpAny_is_ref_other q gx gy nx h

/-- a name of the frame's is set; the rest goes on -/
theorem stE {h : Heap} {t : Nat} {m : Str → Option Value} {cn : Str} {cs : Scope} {L f : Addr} {cd : Value} {x : Str} {v : Value} {Q : Unit → Shared → Prop} (F : Fr h₀ L h m)
    (k : ∀ h', Fr h₀ L h' (fun y => if y = x then some v else m y) → Ex [L] h h' → Q () (St s h' (t + 1)))
    (hk : cs.kind = .function := by rfl) (hl : (envOf cn cs L f cd).kindOf x = some .local := by rfl) :
    wpAny (model prog w) A (storeName (envOf cn cs L f cd) x v) Q E (St s h t) :=
  PySem.wpAny_storeName_local hl F.ns (fun h' hn hs => k h' (F.set hn hs) (Ex.sameBut hs))
    (by show (cs.kind == .class || (cs.kind == .module && L != mainGlobals)) = false; rw [hk]; rfl)
/-- x = e -/
theorem asg {h : Heap} {t : Nat} {cn : Str} {cs : Scope} {L f : Addr} {cd : Value} {x : Str} {px pos : Pos} {e : Expr} {rest : List Stmt} {Q : Flow → Shared → Prop}
    (k : wpAny (model prog w) A (eval e (envOf cn cs L f cd)) (fun v s₁ => wpAny (model prog w) A (storeName (envOf cn cs L f cd) x v) (fun _ s₂ => wpAny (model prog w) A (execs rest (envOf cn cs L f cd)) Q E s₂) E s₁) E (St s h t))
    (hs : swapsWith e (some (.Name x px)) pos.line (envOf cn cs L f cd) = pure false := by rfl) :
    wpAny (model prog w) A (execs (.Assign [.Name x px] e pos :: rest) (envOf cn cs L f cd)) Q E (St s h t) :=
  wpAny_execs_cons (wpAny_Assign_Name (wpAny_mono k (fun _ _ k₁ => wpAny_mono k₁ (fun _ _ k₂ => k₂) fun _ _ x => x) fun _ _ x => x) hs)

/-- range(len(x)) -/
theorem ev_range_len (B : Base0 w mg mb h₀) {h : Heap} {t : Nat} {m : Str → Option Value} {cn : Str} {cs : Scope} {L f : Addr} {cd : Value} {x : Str} {a n : Nat} {xs : List Value} {p1 p2 p3 p4 p5 : Pos} {Q : Value → Shared → Prop}
    (F : Fr h₀ L h m) (hm : m x = some (.ref a)) (ha : h.get? a = some (listOf xs.toArray n)) (hn : xs.length ≤ 100000)
    (k : ∀ r h₁ t₁, h.StaysIn h₁ → (∃ u1 u2 u3, IsRange h₁ r 0 xs.length 1 u1 u2 u3) → Q (.ref r) (St s h₁ t₁))
    (hk : cs.kind = .function := by rfl) (hx : (envOf cn cs L f cd).kindOf x = some .local := by rfl) (hd : (x == ("__debug__" : Str)) = false := by decide)
    (hr : (envOf cn cs L f cd).kindOf "range" = some .globalImplicit := by rfl) (hl : (envOf cn cs L f cd).kindOf "len" = some .globalImplicit := by rfl) :
    wpAny (model prog w) A (eval (.Call (.Name "range" p1) [.Call (.Name "len" p2) [.Name x p3] [] p4] [] p5) (envOf cn cs L f cd)) Q E (St s h t) := by
  refine Call_ (name_B F B.X B.T (by k_is) PyProof.Rows.boot_range (by decide) ?_ hk hr (by decide))
  refine PySem.callWith_type1 (Call_ (name_B F B.X B.T (by k_is) boot_len (by decide) ?_ hk hl (by decide)))
  refine PySem.callWith_builtin1 (ld F hm ?_ hk hx hd)
  refine len_list (items := xs.toArray) ⟨_, ha, rfl, _, rfl⟩ (by simp; omega) (call_range_1 (k _ _ _ (stays_push _ _) ?_))
  rw [show ((xs.length : Nat) : Int) = ((xs.toArray.size : Nat) : Int) by simp]
  exact ⟨_, _, _, IsRange.new _ _ _ _ _ _ _⟩
/-- xs[i] -/
theorem ev_item {h : Heap} {t : Nat} {m : Str → Option Value} {cn : Str} {cs : Scope} {L f : Addr} {cd : Value} {x y : Str} {a n : Nat} {xs : List Value} {i : Int} {u : Tok} {v : Value} {p1 p2 p3 : Pos} {Q : Value → Shared → Prop}
    (F : Fr h₀ L h m) (hm : m x = some (.ref a)) (ha : h.get? a = some (listOf xs.toArray n)) (hi : m y = some (.int i u)) (h0 : 0 ≤ i) (h1 : i < 2 ^ 63) (hv : xs[i.toNat]? = some v)
    (k : Q v (St s h t)) (hk : cs.kind = .function := by rfl) (hx : (envOf cn cs L f cd).kindOf x = some .local := by rfl) (hy : (envOf cn cs L f cd).kindOf y = some .local := by rfl)
    (hd : (x == ("__debug__" : Str)) = false := by decide) (hd' : (y == ("__debug__" : Str)) = false := by decide) :
    wpAny (model prog w) A (eval (.Subscript (.Name x p1) (.Name y p2) p3) (envOf cn cs L f cd)) Q E (St s h t) := by
  refine Subscript_ (ld F hm (ld F hi ?_ hk hy hd') hk hx hd)
  exact item_list (items := xs.toArray) (x := v) ⟨_, ha, rfl, _, rfl⟩ h0 h1 (by simpa using hv) k
end
end Mine
end
section
open PySem PySem.W PySem.W.X PyProof.Rows PySem.Calls
namespace Mine
theorem fill2 : (fun (_ : OpenLaw) (_ : Params → Frag) => True) PySem.Challenge.rw_kl0193_01 hdK.heap_1 := by
  k_fill
  trivial
section
variable {prog : Program} {w : World} {mg mb : Str → Option Value} {h₀ : Heap} {A : Around} {E : Value → Shared → Prop} {s : Shared}

/-- where a thing lies first -/
def idxV (xs : List Value) (v : Value) : Int := match xs.findIdx? (fun x => decide (x = v)) with
  | some k => (k : Int)
  | none => -1
theorem idxV_at {xs : List Value} {v : Value} {i : Nat} (hi : i < xs.length) (e : xs[i] = v) (hno : ∀ j, j < i → xs[j]? ≠ some v) : idxV xs v = i := by
  unfold idxV
  have : xs.findIdx? (fun x => decide (x = v)) = some i := by
    rw [List.findIdx?_eq_some_iff_getElem]
    refine ⟨hi, by simpa using e, fun j hj => ?_⟩
    have := hno j hj
    rw [List.getElem?_eq_getElem (by omega)] at this
    simpa using this
  rw [this]
theorem idxV_none {xs : List Value} {v : Value} (hno : ∀ j, j < xs.length → xs[j]? ≠ some v) : idxV xs v = -1 := by
  unfold idxV
  have : xs.findIdx? (fun x => decide (x = v)) = none := by
    rw [List.findIdx?_eq_none_iff]
    intro x hx
    obtain ⟨j, hj, rfl⟩ := List.getElem_of_mem hx
    have := hno j hj
    rw [List.getElem?_eq_getElem hj] at this
    simpa using this
  rw [this]
theorem idx_spec (B : Base0 w mg mb h₀) {h : Heap} {t : Nat} {v : Value} {a n : Nat} {xs : List Value} {Q : Value → Shared → Prop} (am : Am A 400 1500) (b : Bs h₀ h)
    (ha : h.get? a = some (listOf xs.toArray n)) (hn : xs.length ≤ 1000) (ho : ∀ x ∈ xs, Ob h x) (hv : Ob h v)
    (hQ : ∀ h' t' u, h.StaysIn h' → Q (.int (idxV xs v) u) (St s h' t')) :
    wpAny (model prog w) A (call (.ref 435) [v, .ref a]) Q E (St s h t) := by
  refine wpAny_call ?_
  refine enter B b am (binds := [("thing", v), ("things", .ref a)]) (by k_is) (by k_is) (BindsTo.of_eq rfl) (locs rfl) (fun h₁ F k₁ => ?_)
  refine wpAny_mono ?_ (fun _ _ x => x) (fun _ _ (x : False) => x.elim)
  have hL := size_none h
  generalize h.objs.size = L at *
  refine wpAny_execs_cons (for_range (n := xs.length) (by omega) am.handled
    (fun I i h' => ∃ m, Fr h₀ L h' m ∧ m "thing" = some v ∧ m "things" = some (.ref a) ∧ h₁.get? I = none ∧ Ex [I, L] h₁ h' ∧ (∀ j, j < i → xs[j]? ≠ some v)) ?_ ?_ ?_ ?_)
  · intro Qe hQe
    exact ev_range_len B F rfl (k₁ _ _ ha) (by omega) hQe
  · intro h₂ I k₂ hI
    exact ⟨_, F.keeps k₂, rfl, rfl, hI, Ex.of_stays k₂, fun j hj => absurd hj (Nat.not_lt_zero _)⟩
  · rintro I i u h' h₂ t₁ hi ⟨m, F', m1, m2, hI0, e, hno⟩ e2 ⟨oI, hoI⟩
    have hIL := fr_ne F hI0
    have F₂ : Fr h₀ L h₂ m := fr_ex F' e2 (by simpa using Ne.symm hIL) (by simpa using none_of F.keep hI0)
    refine stE F₂ (fun h₃ F₃ e3 => ?_)
    have e13 : Ex [I, L] h₁ h₃ := e.trans (e2.two e3)
    have ko : ∀ b o, h.get? b = some o → h₃.get? b = some o := fun b o q => e13 b o (by
      simp only [List.mem_cons, List.not_mem_nil, or_false, not_or]
      exact ⟨ne_of (k₁ _ _ q) hI0, ne_of q hL⟩) (k₁ _ _ q)
    refine wpAny_execs_cons (wpAny_If (wpAny_isTrue_Compare1 ?_))
    refine ev_item F₃ m2 (ko _ _ ha) rfl (by omega) (by omega) (v := xs[i]) (by simp) ?_
    refine ld F₃ m1 ?_
    refine is_ob ((ho _ (List.getElem_mem _)).stays ko) (hv.stays ko) ?_
    refine wpAny_truthy_bool ?_
    by_cases q : xs[i] = v
    · rw [if_pos (by simpa using q)]
      refine wpAny_execs_cons (wpAny_Return_some (ld F₃ rfl ?_))
      rw [← idxV_at hi q hno] at *
      exact hQ _ _ _ ko
    · rw [if_neg (by simpa using q)]
      refine wpAny_execs_nil (wpAny_execs_nil ?_)
      refine ⟨_, _, rfl, ⟨_, F₃, m1, m2, hI0, e13, fun j hj => ?_⟩, ?_⟩
      · rcases Nat.lt_succ_iff_lt_or_eq.mp hj with hj | rfl
        · exact hno j hj
        · rw [List.getElem?_eq_getElem hi]; simpa using q
      · rw [hoI]
        exact e3 I _ (by simpa using hIL) hoI
  · rintro I h' h₂ t₁ ⟨m, F', m1, m2, hI0, e, hno⟩ e2
    have hIL := fr_ne F hI0
    refine wpAny_execs_cons (wpAny_Return_some (UnaryOp_ (wpAny_Constant_int (neg_int ?_))))
    have := hQ h₂ (t₁ + 1 + 1) (t₁ + 1) (fun b o q => (e.trans (e2.mono (by simp))) b o (by
      simp only [List.mem_cons, List.not_mem_nil, or_false, not_or]
      exact ⟨ne_of (k₁ _ _ q) hI0, ne_of q hL⟩) (k₁ _ _ q))
    rw [idxV_none hno] at this
    exact this
end
end Mine
end
section
open PySem PySem.W PySem.W.X PyProof.Rows PySem.Calls
namespace Mine
theorem stays_mem {h h' : Heap} {news : List (Addr × Obj)} (D : Mem h h' [] news) : h.StaysIn h' := fun b o e => D.keep b o e (Bool.or_true _)
theorem mem_get {h h' : Heap} {news : List (Addr × Obj)} {a : Addr} {o : Obj} (D : Mem h h' [] news) (hm : (a, o) ∈ news) : h'.get? a = some o := (D.nw _ hm).1
theorem mem_new {h h' : Heap} {news : List (Addr × Obj)} {a : Addr} {o : Obj} (D : Mem h h' [] news) (hm : (a, o) ∈ news) : h.get? a = none := (D.nw _ hm).2
/-- an end that let all stand that stood -/
def Lf (s : Shared) (h : Heap) (P : Value → Heap → Prop) (v : Value) (s' : Shared) : Prop := ∃ h' tk, s' = St s h' tk ∧ h.StaysIn h' ∧ P v h'
theorem Lf.use {prog : Program} {w : World} {A : Around} {α : Type} {t : Sem Value} {s : Shared} {h : Heap} {k : Nat} {P : Value → Heap → Prop} {Q : Value → Shared → Prop} {E : Value → Shared → Prop}
    (x : wpAny (model prog w) A t (Lf s h P) E (St s h k)) (q : ∀ v h' tk, h.StaysIn h' → P v h' → Q v (St s h' tk)) : wpAny (model prog w) A t Q E (St s h k) :=
  wpAny_mono x (fun v s' ⟨h', tk, e, k, p⟩ => e ▸ q v h' tk k p) fun _ _ x => x
abbrev inst (C d : Addr) : Obj := ⟨.ref C, some d, .plain, #[]⟩
abbrev dct (es : Array DictEntry) (n : Nat) : Obj := ⟨.type "dict", none, .dict es n, #[]⟩
/-- a reader's dict -/
def RD (h : Heap) (d : Addr) (v : Nat → Value) : Prop := ∃ k1 k2 k3 k4 t1 t2 t3 t4 n, h.get? d = some (dct #[⟨k1, .str "_cont_handler" t1, v 0⟩, ⟨k2, .str "_dtd_handler" t2, v 1⟩, ⟨k3, .str "_ent_handler" t3, v 2⟩, ⟨k4, .str "_err_handler" t4, v 3⟩] n)
/-- None or a reference -/
def Nr (v : Value) : Prop := v = .none ∨ ∃ a, v = .ref a
local macro_rules | `(tactic| x_close) => `(tactic| (refine ⟨_, _, rfl, stays_mem (by assumption), ?_⟩; rfl))
section
variable {prog : Program} {w : World} {E : Value → Shared → Prop} {s : Shared} {h : Heap} {t : Nat}

set_option maxHeartbeats 0 in
theorem get0_leaf (X : (hdK.heap_1 w.params).In h) {r d : Addr} {v : Nat → Value} (hr : h.get? r = some (inst 417 d)) (hd : RD h d v) (hv : Nr (v 0)) :
    wpAny (model prog w) A1 (call (.ref 330) [.ref r]) (Lf s h fun x _ => x = v 0) E ⟨h, s.gens, s.drawn, t, s.os⟩ := by
  obtain ⟨k1, k2, k3, k4, t1, t2, t3, t4, n, hd⟩ := hd
  revert hd hv
  generalize v 0 = v0
  generalize v 1 = v1
  generalize v 2 = v2
  generalize v 3 = v3
  intro hv hd
  dsimp only [inst, dct] at hr hd
  rcases hv with rfl | ⟨a, rfl⟩
  · x_run
  · x_run

set_option maxHeartbeats 0 in
theorem get1_leaf (X : (hdK.heap_1 w.params).In h) {r d : Addr} {v : Nat → Value} (hr : h.get? r = some (inst 417 d)) (hd : RD h d v) (hv : Nr (v 1)) :
    wpAny (model prog w) A1 (call (.ref 344) [.ref r]) (Lf s h fun x _ => x = v 1) E ⟨h, s.gens, s.drawn, t, s.os⟩ := by
  obtain ⟨k1, k2, k3, k4, t1, t2, t3, t4, n, hd⟩ := hd
  revert hd hv
  generalize v 0 = v0
  generalize v 1 = v1
  generalize v 2 = v2
  generalize v 3 = v3
  intro hv hd
  dsimp only [inst, dct] at hr hd
  rcases hv with rfl | ⟨a, rfl⟩
  · x_run
  · x_run

set_option maxHeartbeats 0 in
theorem get2_leaf (X : (hdK.heap_1 w.params).In h) {r d : Addr} {v : Nat → Value} (hr : h.get? r = some (inst 417 d)) (hd : RD h d v) (hv : Nr (v 2)) :
    wpAny (model prog w) A1 (call (.ref 358) [.ref r]) (Lf s h fun x _ => x = v 2) E ⟨h, s.gens, s.drawn, t, s.os⟩ := by
  obtain ⟨k1, k2, k3, k4, t1, t2, t3, t4, n, hd⟩ := hd
  revert hd hv
  generalize v 0 = v0
  generalize v 1 = v1
  generalize v 2 = v2
  generalize v 3 = v3
  intro hv hd
  dsimp only [inst, dct] at hr hd
  rcases hv with rfl | ⟨a, rfl⟩
  · x_run
  · x_run

set_option maxHeartbeats 0 in
theorem get3_leaf (X : (hdK.heap_1 w.params).In h) {r d : Addr} {v : Nat → Value} (hr : h.get? r = some (inst 417 d)) (hd : RD h d v) (hv : Nr (v 3)) :
    wpAny (model prog w) A1 (call (.ref 372) [.ref r]) (Lf s h fun x _ => x = v 3) E ⟨h, s.gens, s.drawn, t, s.os⟩ := by
  obtain ⟨k1, k2, k3, k4, t1, t2, t3, t4, n, hd⟩ := hd
  revert hd hv
  generalize v 0 = v0
  generalize v 1 = v1
  generalize v 2 = v2
  generalize v 3 = v3
  intro hv hd
  dsimp only [inst, dct] at hr hd
  rcases hv with rfl | ⟨a, rfl⟩
  · x_run
  · x_run

end
end Mine
end
section
open PySem PySem.W PySem.W.X PyProof.Rows PySem.Calls
namespace Mine
theorem mem_lt {h h' : Heap} {chg news : List (Addr × Obj)} (D : Mem h h' chg news) (i j : Nat) {a b : Addr} {oa ob : Obj} (hij : i < j) (hi : news[i]? = some (a, oa)) (hj : news[j]? = some (b, ob)) : b < a := by
  obtain ⟨li, ei⟩ := List.getElem?_eq_some_iff.mp hi
  obtain ⟨lj, ej⟩ := List.getElem?_eq_some_iff.mp hj
  have q := (List.pairwise_iff_getElem.mp D.ord) i j (by rw [List.length_map]; exact li) (by rw [List.length_map]; exact lj) hij
  rw [List.getElem_map, List.getElem_map, ei, ej] at q
  exact q
theorem mem_newi {h h' : Heap} {news : List (Addr × Obj)} (D : Mem h h' [] news) (i : Nat) {a : Addr} {o : Obj} (hi : news[i]? = some (a, o)) : h.get? a = none := (D.nw _ (List.mem_of_getElem? hi)).2
abbrev lstO (xs : Array Value) (n : Nat) : Obj := ⟨.type "list", none, .seq xs n, #[]⟩
/-- what XMLReader() made -/
def NewRd (h : Heap) (v : Value) (h' : Heap) : Prop := ∃ r d a0 d0 a1 d1 a2 d2 a3 d3 kk tt n, v = .ref r ∧ (d < r ∧ r < d0 ∧ d0 < a0 ∧ a0 < d1 ∧ d1 < a1 ∧ a1 < d2 ∧ d2 < a2 ∧ a2 < d3 ∧ d3 < a3) ∧
  (h.get? d = none ∧ h.get? r = none ∧ h.get? d0 = none ∧ h.get? a0 = none ∧ h.get? d1 = none ∧ h.get? a1 = none ∧ h.get? d2 = none ∧ h.get? a2 = none ∧ h.get? d3 = none ∧ h.get? a3 = none) ∧
  h'.get? r = some (inst 417 d) ∧ RD h' d (fun j => match j with | 0 => .ref a0 | 1 => .ref a1 | 2 => .ref a2 | _ => .ref a3) ∧
  h'.get? a0 = some (inst 164 d0) ∧ h'.get? d0 = some (dct #[⟨kk, .str "_locator" tt, .none⟩] n) ∧ h'.get? a1 = some (inst 192 d1) ∧ h'.get? d1 = some (dct #[] 0) ∧ h'.get? a2 = some (inst 213 d2) ∧ h'.get? d2 = some (dct #[] 0) ∧ h'.get? a3 = some (inst 52 d3) ∧ h'.get? d3 = some (dct #[] 0)
theorem newRd_of {h h' : Heap} {r d a0 d0 a1 d1 a2 d2 a3 d3 x y : Addr} {ox oy : Obj} {kk k1 k2 k3 k4 : Int} {tt t1 t2 t3 t4 : Tok} {n n' : Nat}
    (D : Mem h h' [] [(a3, inst 52 d3), (d3, dct #[] 0), (a2, inst 213 d2), (d2, dct #[] 0), (a1, inst 192 d1), (d1, dct #[] 0), (x, ox), (a0, inst 164 d0), (d0, dct #[⟨kk, .str "_locator" tt, .none⟩] n), (y, oy), (r, inst 417 d),
      (d, dct #[⟨k1, .str "_cont_handler" t1, .ref a0⟩, ⟨k2, .str "_dtd_handler" t2, .ref a1⟩, ⟨k3, .str "_ent_handler" t3, .ref a2⟩, ⟨k4, .str "_err_handler" t4, .ref a3⟩] n')]) : NewRd h (.ref r) h' :=
  ⟨r, d, a0, d0, a1, d1, a2, d2, a3, d3, kk, tt, n, rfl,
    ⟨mem_lt D 10 11 (by decide) rfl rfl, mem_lt D 8 10 (by decide) rfl rfl, mem_lt D 7 8 (by decide) rfl rfl, mem_lt D 5 7 (by decide) rfl rfl, mem_lt D 4 5 (by decide) rfl rfl, mem_lt D 3 4 (by decide) rfl rfl, mem_lt D 2 3 (by decide) rfl rfl, mem_lt D 1 2 (by decide) rfl rfl, mem_lt D 0 1 (by decide) rfl rfl⟩,
    ⟨mem_newi D 11 rfl, mem_newi D 10 rfl, mem_newi D 8 rfl, mem_newi D 7 rfl, mem_newi D 5 rfl, mem_newi D 4 rfl, mem_newi D 3 rfl, mem_newi D 2 rfl, mem_newi D 1 rfl, mem_newi D 0 rfl⟩,
    D.at 10 _ _ rfl, ⟨k1, k2, k3, k4, t1, t2, t3, t4, n', D.at 11 _ _ rfl⟩, D.at 7 _ _ rfl, D.at 8 _ _ rfl, D.at 4 _ _ rfl, D.at 5 _ _ rfl, D.at 2 _ _ rfl, D.at 3 _ _ rfl, D.at 0 _ _ rfl, D.at 1 _ _ rfl⟩
/-- a SAX error's dict -/
def ED (h : Heap) (d : Addr) (x : Str) (tx : Tok) : Prop := ∃ k1 k2 t1 t2 n, h.get? d = some (dct #[⟨k1, .str "_msg" t1, .str x tx⟩, ⟨k2, .str "_exception" t2, .none⟩] n)
abbrev excO (C : Value) (d : Option Addr) (tup : Addr) (tb : Value) : Obj := ⟨C, d, .fields #[.ref tup, tb, .none, .none, .bool false, .none], #[]⟩
/-- a SAX error new -/
def NewSax (C : Addr) (x : Str) (tx : Tok) (h : Heap) (v : Value) (h' : Heap) : Prop := ∃ e d tup, v = .ref e ∧ e ≠ d ∧ h.get? e = none ∧ h.get? d = none ∧ h'.get? e = some (excO (.ref C) (some d) tup .none) ∧ ED h' d x tx
theorem newSax_of {h h' : Heap} {C e d tup y z : Addr} {x : Str} {tx : Tok} {o1 oy oz : Obj} {k1 k2 : Int} {t1 t2 : Tok} {n : Nat}
    (D : Mem h h' [] [(tup, o1), (d, dct #[⟨k1, .str "_msg" t1, .str x tx⟩, ⟨k2, .str "_exception" t2, .none⟩] n), (y, oy), (e, excO (.ref C) (some d) tup .none), (z, oz)]) : NewSax C x tx h (.ref e) h' :=
  ⟨e, d, tup, rfl, Nat.ne_of_lt (mem_lt D 1 3 (by decide) rfl rfl), mem_newi D 3 rfl, mem_newi D 1 rfl, D.at 3 _ _ rfl, k1, k2, t1, t2, n, D.at 1 _ _ rfl⟩
/-- a built-in error new -/
def NewNie (x : Str) (tx : Tok) (h : Heap) (v : Value) (h' : Heap) : Prop := ∃ e tup, v = .ref e ∧ e ≠ tup ∧ h.get? e = none ∧ h.get? tup = none ∧ h'.get? e = some (excO (.type "NotImplementedError") none tup .none) ∧ h'.get? tup = some ⟨.type "tuple", none, .seq #[.str x tx] 0, #[]⟩
theorem newNie_of {h h' : Heap} {e tup z : Addr} {x : Str} {tx : Tok} {oz : Obj} 
    (D : Mem h h' [] [(tup, ⟨.type "tuple", none, .seq #[.str x tx] 0, #[]⟩), (e, excO (.type "NotImplementedError") none tup .none), (z, oz)]) : NewNie x tx h (.ref e) h' :=
  ⟨e, tup, rfl, Nat.ne_of_lt (mem_lt D 0 1 (by decide) rfl rfl), mem_newi D 1 rfl, mem_newi D 0 rfl, D.at 1 _ _ rfl, D.at 0 _ _ rfl⟩
local macro_rules | `(tactic| x_close) => `(tactic| (refine ⟨_, _, rfl, stays_mem (by assumption), ?_⟩; (rename Mem _ _ _ _ => D'); first | rfl | exact newRd_of D' | exact newSax_of D' | exact newNie_of D' | (trace_state; fail "no end")))
section
variable {prog : Program} {w : World} {E : Value → Shared → Prop} {s : Shared} {h : Heap} {t : Nat}
set_option maxHeartbeats 0 in
theorem newRd_leaf (X : (hdK.heap_1 w.params).In h) : wpAny (model prog w) A1 (call (.ref 417) []) (Lf s h (NewRd h)) E ⟨h, s.gens, s.drawn, t, s.os⟩ := by
  have h0 := blt_at X
  x_run
set_option maxHeartbeats 0 in
theorem newRec_leaf (X : (hdK.heap_1 w.params).In h) {x : Str} {tx : Tok} : wpAny (model prog w) A1 (call (.ref 276) [.str x tx]) (Lf s h (NewSax 276 x tx h)) E ⟨h, s.gens, s.drawn, t, s.os⟩ := by
  have h0 := blt_at X
  x_run
set_option maxHeartbeats 0 in
theorem newSup_leaf (X : (hdK.heap_1 w.params).In h) {x : Str} {tx : Tok} : wpAny (model prog w) A1 (call (.ref 288) [.str x tx]) (Lf s h (NewSax 288 x tx h)) E ⟨h, s.gens, s.drawn, t, s.os⟩ := by
  have h0 := blt_at X
  x_run
set_option maxHeartbeats 0 in
theorem newNie_leaf (X : (hdK.heap_1 w.params).In h) {x : Str} {tx : Tok} : wpAny (model prog w) A1 (call (.type "NotImplementedError") [.str x tx]) (Lf s h (NewNie x tx h)) E ⟨h, s.gens, s.drawn, t, s.os⟩ := by
  have h0 := blt_at X
  x_run
end
end Mine
end
section
open PySem PySem.W PySem.W.X PyProof.Rows PySem.Calls
namespace Mine
local macro_rules | `(tactic| x_close) => `(tactic| (refine ⟨_, _, rfl, by first | exact stays_mem (by assumption) | exact stays_refl _, ?_⟩; first | rfl | exact ⟨_, rfl⟩ | (trace_state; fail "no end")))
section
variable {prog : Program} {w : World} {E : Value → Shared → Prop} {s : Shared} {h : Heap} {t : Nat}
/-- the class of a handler's kind -/
def hCls : Nat → Addr | 0 => 164 | 1 => 192 | 2 => 213 | _ => 52

set_option maxHeartbeats 0 in
theorem isi00_leaf (X : (hdK.heap_1 w.params).In h) {a d : Addr} (ha : h.get? a = some (inst 164 d)) :
    wpAny (model prog w) A1 (call (.builtin "isinstance") [.ref a, .ref 164]) (Lf s h fun v _ => v = .bool true) E ⟨h, s.gens, s.drawn, t, s.os⟩ := by
  dsimp only [inst] at ha
  x_run

set_option maxHeartbeats 0 in
theorem isi01_leaf (X : (hdK.heap_1 w.params).In h) {a d : Addr} (ha : h.get? a = some (inst 164 d)) :
    wpAny (model prog w) A1 (call (.builtin "isinstance") [.ref a, .ref 192]) (Lf s h fun v _ => v = .bool false) E ⟨h, s.gens, s.drawn, t, s.os⟩ := by
  dsimp only [inst] at ha
  x_run

set_option maxHeartbeats 0 in
theorem isi02_leaf (X : (hdK.heap_1 w.params).In h) {a d : Addr} (ha : h.get? a = some (inst 164 d)) :
    wpAny (model prog w) A1 (call (.builtin "isinstance") [.ref a, .ref 213]) (Lf s h fun v _ => v = .bool false) E ⟨h, s.gens, s.drawn, t, s.os⟩ := by
  dsimp only [inst] at ha
  x_run

set_option maxHeartbeats 0 in
theorem isi03_leaf (X : (hdK.heap_1 w.params).In h) {a d : Addr} (ha : h.get? a = some (inst 164 d)) :
    wpAny (model prog w) A1 (call (.builtin "isinstance") [.ref a, .ref 52]) (Lf s h fun v _ => v = .bool false) E ⟨h, s.gens, s.drawn, t, s.os⟩ := by
  dsimp only [inst] at ha
  x_run

set_option maxHeartbeats 0 in
theorem isi10_leaf (X : (hdK.heap_1 w.params).In h) {a d : Addr} (ha : h.get? a = some (inst 192 d)) :
    wpAny (model prog w) A1 (call (.builtin "isinstance") [.ref a, .ref 164]) (Lf s h fun v _ => v = .bool false) E ⟨h, s.gens, s.drawn, t, s.os⟩ := by
  dsimp only [inst] at ha
  x_run

set_option maxHeartbeats 0 in
theorem isi11_leaf (X : (hdK.heap_1 w.params).In h) {a d : Addr} (ha : h.get? a = some (inst 192 d)) :
    wpAny (model prog w) A1 (call (.builtin "isinstance") [.ref a, .ref 192]) (Lf s h fun v _ => v = .bool true) E ⟨h, s.gens, s.drawn, t, s.os⟩ := by
  dsimp only [inst] at ha
  x_run

set_option maxHeartbeats 0 in
theorem isi12_leaf (X : (hdK.heap_1 w.params).In h) {a d : Addr} (ha : h.get? a = some (inst 192 d)) :
    wpAny (model prog w) A1 (call (.builtin "isinstance") [.ref a, .ref 213]) (Lf s h fun v _ => v = .bool false) E ⟨h, s.gens, s.drawn, t, s.os⟩ := by
  dsimp only [inst] at ha
  x_run

set_option maxHeartbeats 0 in
theorem isi13_leaf (X : (hdK.heap_1 w.params).In h) {a d : Addr} (ha : h.get? a = some (inst 192 d)) :
    wpAny (model prog w) A1 (call (.builtin "isinstance") [.ref a, .ref 52]) (Lf s h fun v _ => v = .bool false) E ⟨h, s.gens, s.drawn, t, s.os⟩ := by
  dsimp only [inst] at ha
  x_run

set_option maxHeartbeats 0 in
theorem isi20_leaf (X : (hdK.heap_1 w.params).In h) {a d : Addr} (ha : h.get? a = some (inst 213 d)) :
    wpAny (model prog w) A1 (call (.builtin "isinstance") [.ref a, .ref 164]) (Lf s h fun v _ => v = .bool false) E ⟨h, s.gens, s.drawn, t, s.os⟩ := by
  dsimp only [inst] at ha
  x_run

set_option maxHeartbeats 0 in
theorem isi21_leaf (X : (hdK.heap_1 w.params).In h) {a d : Addr} (ha : h.get? a = some (inst 213 d)) :
    wpAny (model prog w) A1 (call (.builtin "isinstance") [.ref a, .ref 192]) (Lf s h fun v _ => v = .bool false) E ⟨h, s.gens, s.drawn, t, s.os⟩ := by
  dsimp only [inst] at ha
  x_run

set_option maxHeartbeats 0 in
theorem isi22_leaf (X : (hdK.heap_1 w.params).In h) {a d : Addr} (ha : h.get? a = some (inst 213 d)) :
    wpAny (model prog w) A1 (call (.builtin "isinstance") [.ref a, .ref 213]) (Lf s h fun v _ => v = .bool true) E ⟨h, s.gens, s.drawn, t, s.os⟩ := by
  dsimp only [inst] at ha
  x_run

set_option maxHeartbeats 0 in
theorem isi23_leaf (X : (hdK.heap_1 w.params).In h) {a d : Addr} (ha : h.get? a = some (inst 213 d)) :
    wpAny (model prog w) A1 (call (.builtin "isinstance") [.ref a, .ref 52]) (Lf s h fun v _ => v = .bool false) E ⟨h, s.gens, s.drawn, t, s.os⟩ := by
  dsimp only [inst] at ha
  x_run

set_option maxHeartbeats 0 in
theorem isi30_leaf (X : (hdK.heap_1 w.params).In h) {a d : Addr} (ha : h.get? a = some (inst 52 d)) :
    wpAny (model prog w) A1 (call (.builtin "isinstance") [.ref a, .ref 164]) (Lf s h fun v _ => v = .bool false) E ⟨h, s.gens, s.drawn, t, s.os⟩ := by
  dsimp only [inst] at ha
  x_run

set_option maxHeartbeats 0 in
theorem isi31_leaf (X : (hdK.heap_1 w.params).In h) {a d : Addr} (ha : h.get? a = some (inst 52 d)) :
    wpAny (model prog w) A1 (call (.builtin "isinstance") [.ref a, .ref 192]) (Lf s h fun v _ => v = .bool false) E ⟨h, s.gens, s.drawn, t, s.os⟩ := by
  dsimp only [inst] at ha
  x_run

set_option maxHeartbeats 0 in
theorem isi32_leaf (X : (hdK.heap_1 w.params).In h) {a d : Addr} (ha : h.get? a = some (inst 52 d)) :
    wpAny (model prog w) A1 (call (.builtin "isinstance") [.ref a, .ref 213]) (Lf s h fun v _ => v = .bool false) E ⟨h, s.gens, s.drawn, t, s.os⟩ := by
  dsimp only [inst] at ha
  x_run

set_option maxHeartbeats 0 in
theorem isi33_leaf (X : (hdK.heap_1 w.params).In h) {a d : Addr} (ha : h.get? a = some (inst 52 d)) :
    wpAny (model prog w) A1 (call (.builtin "isinstance") [.ref a, .ref 52]) (Lf s h fun v _ => v = .bool true) E ⟨h, s.gens, s.drawn, t, s.os⟩ := by
  dsimp only [inst] at ha
  x_run

set_option maxHeartbeats 0 in
theorem isiENie_leaf (X : (hdK.heap_1 w.params).In h) {e tup : Addr} {d : Option Addr} {tb : Value} (he : h.get? e = some (excO (.type "NotImplementedError") d tup tb)) :
    wpAny (model prog w) A1 (call (.builtin "isinstance") [.ref e, .ref 300]) (Lf s h fun v _ => v = .bool false) E ⟨h, s.gens, s.drawn, t, s.os⟩ := by
  dsimp only [excO] at he
  x_run
set_option maxHeartbeats 0 in
theorem strNie_leaf (X : (hdK.heap_1 w.params).In h) {e tup : Addr} {tb : Value} {x : Str} {tx : Tok} (he : h.get? e = some (excO (.type "NotImplementedError") none tup tb)) (hd : h.get? tup = some ⟨.type "tuple", none, .seq #[.str x tx] 0, #[]⟩) :
    wpAny (model prog w) A1 (call (.type "str") [.ref e]) (Lf s h fun v _ => ∃ tk, v = .str x tk) E ⟨h, s.gens, s.drawn, t, s.os⟩ := by
  dsimp only [excO] at he hd
  x_run
set_option maxHeartbeats 0 in
theorem ev0_leaf (X : (hdK.heap_1 w.params).In h) {a : Addr} {x : Str} {tx : Tok} {v : Value} :
    wpAny (model prog w) A1 (call (.ref 112) [.ref a, .str x tx, v]) (Lf s h fun u _ => u = .none) E ⟨h, s.gens, s.drawn, t, s.os⟩ := by
  x_run
set_option maxHeartbeats 0 in
theorem ev1_leaf (X : (hdK.heap_1 w.params).In h) {a : Addr} {x : Str} {tx : Tok} {v : Value} :
    wpAny (model prog w) A1 (call (.ref 182) [.ref a, .str x tx, v, v]) (Lf s h fun u _ => u = .none) E ⟨h, s.gens, s.drawn, t, s.os⟩ := by
  x_run
set_option maxHeartbeats 0 in
theorem ev2_leaf (X : (hdK.heap_1 w.params).In h) {a : Addr} {x : Str} {tx : Tok} {v : Value} :
    wpAny (model prog w) A1 (call (.ref 210) [.ref a, .str x tx, v]) (Lf s h fun u _ => u = v) E ⟨h, s.gens, s.drawn, t, s.os⟩ := by
  x_run
end
end Mine
end
section
open PySem PySem.W PySem.W.X PyProof.Rows PySem.Calls
namespace Mine
abbrev excV (C : Value) (d : Option Addr) (tup tb : Value) : Obj := ⟨C, d, .fields #[tup, tb, .none, .none, .bool false, .none], #[]⟩
local macro_rules | `(tactic| x_close) => `(tactic| (refine ⟨_, _, rfl, by first | exact stays_mem (by assumption) | exact stays_refl _, ?_⟩; first | rfl | exact ⟨_, rfl⟩ | (trace_state; fail "no end")))
section
variable {prog : Program} {w : World} {E : Value → Shared → Prop} {s : Shared} {h : Heap} {t : Nat}
set_option maxHeartbeats 0 in
theorem isiERec_leafV (X : (hdK.heap_1 w.params).In h) {e : Addr} {d : Option Addr} {tup tb : Value} (he : h.get? e = some (excV (.ref 276) d tup tb)) :
    wpAny (model prog w) A1 (call (.builtin "isinstance") [.ref e, .ref 300]) (Lf s h fun v _ => v = .bool false) E ⟨h, s.gens, s.drawn, t, s.os⟩ := by
  dsimp only [excV] at he
  x_run
set_option maxHeartbeats 0 in
theorem strRec_leafV (X : (hdK.heap_1 w.params).In h) {e d : Addr} {tup tb : Value} {x : Str} {tx : Tok} (he : h.get? e = some (excV (.ref 276) (some d) tup tb)) (hd : ED h d x tx) :
    wpAny (model prog w) A1 (call (.type "str") [.ref e]) (Lf s h fun v _ => ∃ tk, v = .str x tk) E ⟨h, s.gens, s.drawn, t, s.os⟩ := by
  obtain ⟨k1, k2, t1, t2, n, hd⟩ := hd
  dsimp only [excV, dct] at he hd
  x_run
set_option maxHeartbeats 0 in
theorem msgRec_leafV (X : (hdK.heap_1 w.params).In h) {e d : Addr} {tup tb : Value} {x : Str} {tx : Tok} (he : h.get? e = some (excV (.ref 276) (some d) tup tb)) (hd : ED h d x tx) :
    wpAny (model prog w) A1 (call (.ref 239) [.ref e]) (Lf s h fun v _ => ∃ tk, v = .str x tk) E ⟨h, s.gens, s.drawn, t, s.os⟩ := by
  obtain ⟨k1, k2, t1, t2, n, hd⟩ := hd
  dsimp only [excV, dct] at he hd
  x_run
set_option maxHeartbeats 0 in
theorem excRec_leafV (X : (hdK.heap_1 w.params).In h) {e d : Addr} {tup tb : Value} {x : Str} {tx : Tok} (he : h.get? e = some (excV (.ref 276) (some d) tup tb)) (hd : ED h d x tx) :
    wpAny (model prog w) A1 (call (.ref 246) [.ref e]) (Lf s h fun v _ => v = .none) E ⟨h, s.gens, s.drawn, t, s.os⟩ := by
  obtain ⟨k1, k2, t1, t2, n, hd⟩ := hd
  dsimp only [excV, dct] at he hd
  x_run
set_option maxHeartbeats 0 in
theorem isiESup_leafV (X : (hdK.heap_1 w.params).In h) {e : Addr} {d : Option Addr} {tup tb : Value} (he : h.get? e = some (excV (.ref 288) d tup tb)) :
    wpAny (model prog w) A1 (call (.builtin "isinstance") [.ref e, .ref 300]) (Lf s h fun v _ => v = .bool false) E ⟨h, s.gens, s.drawn, t, s.os⟩ := by
  dsimp only [excV] at he
  x_run
set_option maxHeartbeats 0 in
theorem strSup_leafV (X : (hdK.heap_1 w.params).In h) {e d : Addr} {tup tb : Value} {x : Str} {tx : Tok} (he : h.get? e = some (excV (.ref 288) (some d) tup tb)) (hd : ED h d x tx) :
    wpAny (model prog w) A1 (call (.type "str") [.ref e]) (Lf s h fun v _ => ∃ tk, v = .str x tk) E ⟨h, s.gens, s.drawn, t, s.os⟩ := by
  obtain ⟨k1, k2, t1, t2, n, hd⟩ := hd
  dsimp only [excV, dct] at he hd
  x_run
set_option maxHeartbeats 0 in
theorem msgSup_leafV (X : (hdK.heap_1 w.params).In h) {e d : Addr} {tup tb : Value} {x : Str} {tx : Tok} (he : h.get? e = some (excV (.ref 288) (some d) tup tb)) (hd : ED h d x tx) :
    wpAny (model prog w) A1 (call (.ref 239) [.ref e]) (Lf s h fun v _ => ∃ tk, v = .str x tk) E ⟨h, s.gens, s.drawn, t, s.os⟩ := by
  obtain ⟨k1, k2, t1, t2, n, hd⟩ := hd
  dsimp only [excV, dct] at he hd
  x_run
set_option maxHeartbeats 0 in
theorem excSup_leafV (X : (hdK.heap_1 w.params).In h) {e d : Addr} {tup tb : Value} {x : Str} {tx : Tok} (he : h.get? e = some (excV (.ref 288) (some d) tup tb)) (hd : ED h d x tx) :
    wpAny (model prog w) A1 (call (.ref 246) [.ref e]) (Lf s h fun v _ => v = .none) E ⟨h, s.gens, s.drawn, t, s.os⟩ := by
  obtain ⟨k1, k2, t1, t2, n, hd⟩ := hd
  dsimp only [excV, dct] at he hd
  x_run
end
end Mine
end
section
open PySem PySem.W PySem.W.X PyProof.Rows PySem.Calls
namespace Mine
/-- an error's record: its arguments, its traceback, the rest -/
abbrev exG (C : Value) (d : Option Addr) (tup : Value) (tb : Value) (rest : List Value) : Obj := ⟨C, d, .fields ⟨tup :: tb :: rest⟩, #[]⟩
abbrev xr : List Value := [.none, .none, .bool false, .none]
abbrev tbO (ts : Array Value) : Obj := ⟨.type "traceback", none, .fields ts, #[]⟩
/-- what may turn: the frames' slots, and X -/
structure Chg (fs : List Addr) (X : Addr → Prop) (h h' : Heap) : Prop where
  keep : ∀ b o, b ∉ fs → ¬ X b → h.get? b = some o → h'.get? b = some o
  fram : ∀ l, l ∈ fs → ∀ o, h.get? l = some o → ∃ sl, h'.get? l = some { o with slots := sl }
theorem Chg.refl (fs : List Addr) (X : Addr → Prop) (h : Heap) : Chg fs X h h := ⟨fun _ _ _ _ e => e, fun _ _ o e => ⟨o.slots, e⟩⟩
theorem Chg.trans {fs : List Addr} {X X' : Addr → Prop} {h h' h'' : Heap} (x : Chg fs X h h') (y : Chg fs X' h' h'') (hX : ∀ b o, h.get? b = some o → X' b → X b) : Chg fs X h h'' :=
  ⟨fun b o n nx e => y.keep b o n (fun q => nx (hX b o e q)) (x.keep b o n nx e), fun l hl o e => let ⟨_, e1⟩ := x.fram l hl o e; let ⟨sl, e2⟩ := y.fram l hl _ e1; ⟨sl, e2⟩⟩
theorem Chg.mono {fs : List Addr} {X X' : Addr → Prop} {h h' : Heap} (x : Chg fs X h h') (k : ∀ b o, h.get? b = some o → X b → X' b) : Chg fs X' h h' := ⟨fun b o n nx e => x.keep b o n (fun q => nx (k b o e q)) e, x.fram⟩
theorem Chg.of_stays {fs : List Addr} {X : Addr → Prop} {h h' : Heap} (k : h.StaysIn h') : Chg fs X h h' := ⟨fun b o _ _ e => k b o e, fun l _ o e => ⟨o.slots, k l o e⟩⟩
theorem Chg.stays_left {fs : List Addr} {X : Addr → Prop} {h h' h'' : Heap} (k : h.StaysIn h') (x : Chg fs X h' h'') : Chg fs X h h'' := ⟨fun b o n nx e => x.keep b o n nx (k b o e), fun l hl o e => x.fram l hl o (k l o e)⟩
theorem Chg.stays_right {fs : List Addr} {X : Addr → Prop} {h h' h'' : Heap} (x : Chg fs X h h') (k : h'.StaysIn h'') : Chg fs X h h'' := ⟨fun b o n nx e => k b o (x.keep b o n nx e), fun l hl o e => let ⟨sl, q⟩ := x.fram l hl o e; ⟨sl, k l _ q⟩⟩
/-- fewer frames -/
theorem Chg.less {fs : List Addr} {L : Addr} {X : Addr → Prop} {h h' : Heap} (x : Chg (L :: fs) X h h') (hL : h.get? L = none) : Chg fs X h h' :=
  ⟨fun b o n nx e => x.keep b o (fun q => (List.mem_cons.mp q).elim (fun z => by rw [z, hL] at e; cases e) n) nx e, fun l hl o e => x.fram l (.tail _ hl) o e⟩

/-- an error that was raised: its traceback's head, in flight at fl -/
structure Rz (h : Heap) (e : Addr) (C : Value) (dxo : Option Addr) (tup : Value) (rest : List Value) (T : Addr) (fl : Value) : Prop where
  exc : h.get? e = some (exG C dxo tup (.ref T) rest)
  ne : T ≠ e
  tb : ∃ ts, h.get? T = some (tbO ts) ∧ ts[3]? = some fl
theorem Rz.stays {h h' : Heap} {e : Addr} {C : Value} {dxo : Option Addr} {tup : Value} {T : Addr} {rest : List Value} {fl : Value} (x : Rz h e C dxo tup rest T fl) (k : h.StaysIn h') : Rz h' e C dxo tup rest T fl :=
  let ⟨ts, a, b⟩ := x.tb; ⟨k _ _ x.exc, x.ne, ts, k _ _ a, b⟩
theorem funF_of_chg {fs : List Addr} {X : Addr → Prop} {h h' : Heap} (c : Chg fs X h h') : ∀ {l : List Env}, h.FunFrames {} l → (∀ b ∈ l.filterMap (·.frame), b ∈ fs) → h'.FunFrames {} l
  | [], _, _ => trivial
  | env :: r, ⟨hk, ⟨L, o, hf, hn, ho, hd⟩, hr⟩, hs => by
    rw [List.filterMap_cons, hf] at hs
    obtain ⟨sl, e⟩ := c.fram L (hs L (.head _)) o ho
    exact ⟨hk, ⟨L, _, hf, hn, e, hd⟩, funF_of_chg c hr fun b hb => hs b (.tail _ hb)⟩
theorem funF_ex {S : List Addr} {h h' : Heap} (c : Ex S h h') : ∀ {l : List Env}, h.FunFrames {} l → (∀ b ∈ l.filterMap (·.frame), b ∉ S) → h'.FunFrames {} l
  | [], _, _ => trivial
  | env :: r, ⟨hk, ⟨L, o, hf, hn, ho, hd⟩, hr⟩, hs => by
    rw [List.filterMap_cons, hf] at hs
    exact ⟨hk, ⟨L, o, hf, hn, c L o (hs L (.head _)) ho, hd⟩, funF_ex c hr fun b hb => hs b (.tail _ hb)⟩
section
variable {M : Model} {A : Around} {E : Value → Shared → Prop} {s : Shared} {h : Heap} {t : Nat}

theorem note0 {env : Env} {outer : List Env} {L e : Addr} {tup C tb : Value} {dxo : Option Addr} {rest : List Value} {Q : Unit → Shared → Prop} (hfr : A.frames = some (env :: outer)) (hl : h.FunFrames {} (env :: outer)) (hf : env.frame = some L)
    (he : h.get? e = some (exG C dxo tup tb rest)) (htb : tb = .none ∨ ∃ T ts, tb = .ref T ∧ T ≠ e ∧ h.get? T = some (tbO ts) ∧ ts[3]? = some .none)
    (k : ∀ h' T, h.get? T = none → Rz h' e C dxo tup rest T (rawInt L) → Chg ((env :: outer).filterMap (·.frame)) (fun b => b = e ∨ tb = .ref b) h h' → Q () (St s h' t)) :
    wpAny M A (noteFrame (.ref e) env) Q E (St s h t) := by

  have key : ∀ h₁, (∀ b o, ¬ (tb = .ref b) → h.get? b = some o → h₁.get? b = some o) → (∀ b, h.get? b = none → h₁.get? b = none) → h.objs.size = h₁.objs.size → h₁.FunFrames {} (env :: outer) → h₁.get? e = some (exG C dxo tup tb rest) →
      wpAny M A (do let a ← frameOf env; let pl ← entryPlaceOf L (tb != .none); let b ← EntryCells.newEntry tb a .none (rawInt L) .none pl; setField (.ref e) 1 b) Q E (St s h₁ t) := by
    intro h₁ k₁ n₁ z₁ hl₁ he₁
    refine wpAny_bind (wpAny_frameOf_fun hfr hl₁ hf fun h₂ hs₂ => ?_)
    refine wpAny_bind (wpAny_entryPlaceOf fun pl hpl => ?_)
    unfold EntryCells.newEntry newFields
    refine wpAny_bind (wpAny_newObj_type ?_ (hpl.sizeOk5 _ _ _ _ _))
    have hene : e ∉ (env :: outer).filterMap (·.frame) := fun hm => by
      obtain ⟨_, o, ho, hnf⟩ := hl₁.mem hm
      rw [he₁] at ho; injection ho with ho; subst ho; exact hnf _ rfl
    have he₂ : h₂.get? e = some (exG C dxo tup tb rest) := (hs₂.2.1 e hene).trans he₁
    have he₃ := Heap.get?_push_of_some (h := h₂) (tbO ([tb, .ref L, .none, rawInt L, .none] ++ (if pl.isEmpty then List.replicate 6 Value.none else pl)).toArray) he₂
    refine wpAny_setField he₃ rfl (by simp) (k _ h₂.objs.size ?_ ?_ ?_)
    · exact Heap.get?_none_of_le (by rw [hs₂.1, z₁]; exact Nat.le_refl _)
    · have hTe : h₂.objs.size ≠ e := Nat.ne_of_gt (Heap.lt_size he₂)
      refine ⟨Heap.get?_update_self _ he₃ rfl, hTe, ([tb, .ref L, .none, rawInt L, .none] ++ (if pl.isEmpty then List.replicate 6 Value.none else pl)).toArray, ?_, ?_⟩
      · rw [Heap.get?_update_other _ _ (Ne.symm hTe)]
        exact Heap.get?_push_size h₂ rfl
      · rcases hpl with rfl | ⟨_, _, _, _, _, _, _, rfl⟩ <;> simp
    · have up : ∀ b o, b ≠ e → h₂.get? b = some o → ((h₂.push (tbO ([tb, .ref L, .none, rawInt L, .none] ++ (if pl.isEmpty then List.replicate 6 Value.none else pl)).toArray)).update e (Obj.mapFields (·.setIfInBounds 1 (Value.ref h₂.objs.size)))).get? b = some o := fun b o hb q => by
        rw [Heap.get?_update_other _ _ (Ne.symm hb)]
        exact Heap.get?_push_of_some _ q
      refine ⟨fun b o hb hx q => up b o (fun z => hx (.inl z)) ((hs₂.2.1 b hb).trans (k₁ b o (fun z => hx (.inr z)) q)), fun l hm o q => ?_⟩
      have hlt : ¬ (tb = .ref l) := fun z => by
        obtain ⟨_, o', ho', hnf⟩ := hl.mem hm
        rcases htb with rfl | ⟨T, ts, rfl, _, hT, _⟩
        · cases z
        · cases z
          rw [hT] at ho'; cases ho'; exact hnf _ rfl
      obtain ⟨sl, e2⟩ := hs₂.2.2 l o (k₁ l o hlt q)
      exact ⟨sl, up l _ (fun z => hene (z ▸ hm)) e2⟩
  unfold noteFrame
  simp only [hf]
  refine wpAny_bind (wpAny_field he rfl (x := tb) rfl ?_)
  rcases htb with rfl | ⟨T, ts, rfl, hTe, hT, h3⟩
  · rw [if_neg (by decide)]
    exact key h (fun _ _ _ q => q) (fun _ q => q) rfl hl he
  · rw [if_pos (show (Value.ref T != Value.none) = true from by simp)]
    refine wpAny_bind (wpAny_field hT rfl h3 ?_)
    rw [if_neg (show ¬ ((Value.none == rawInt L) = true) from by simp [rawInt])]
    refine wpAny_bind (wpAny_setField hT rfl (Array.getElem?_eq_some_iff.mp h3).1 ?_)
    have other : ∀ b, b ≠ T → (h.update T (Obj.mapFields (·.setIfInBounds 3 Value.none))).get? b = h.get? b := fun b hb => Heap.get?_update_other _ _ (Ne.symm hb)
    have noR : ∀ b o, h.get? b = some o → (∀ vs, o.data ≠ .fields vs) → b ≠ T := fun b o hb hnf q => by
      rw [q, hT] at hb; injection hb with hb; subst hb; exact hnf ts rfl
    refine key _ (fun b o hb q => (other b fun z => hb (by rw [z])).trans q) (fun b q => ?_) (Heap.SameBut.update ..).1.symm (hl.of_keeps fun b o hb hnf => ⟨o, (other b (noR b o hb hnf)).trans hb, rfl⟩) ((other e (Ne.symm hTe)).trans he)
    by_cases z : b = T
    · rw [z, hT] at q; cases q
    · exact (other b z).trans q

theorem land0 {e T : Addr} {tup C fl : Value} {dxo : Option Addr} {rest : List Value} {Q : Unit → Shared → Prop} (R : Rz h e C dxo tup rest T fl) (k : ∀ h', Rz h' e C dxo tup rest T .none → Ex [T] h h' → (∀ b, h.get? b = none → h'.get? b = none) → Q () (St s h' t)) :
    wpAny M A (setFlight (.ref e) none) Q E (St s h t) := by
  obtain ⟨he, hTe, ts, hT, h3⟩ := R
  unfold setFlight
  refine wpAny_bind (wpAny_field he rfl (x := .ref T) rfl ?_)
  rw [if_pos (show (Value.ref T != Value.none) = true from by simp)]
  have h3' := (Array.getElem?_eq_some_iff.mp h3).1
  have other : ∀ b, b ≠ T → (h.update T (Obj.mapFields (·.setIfInBounds 3 ((none : Option Addr).elim Value.none fun f => rawInt f)))).get? b = h.get? b := fun b hb => Heap.get?_update_other _ _ (Ne.symm hb)
  refine wpAny_setField hT rfl h3' (k _ ⟨(other e (Ne.symm hTe)).trans he, hTe, _, Heap.get?_update_self _ hT rfl, by simp [h3']⟩ (fun b o nb q => (other b (fun z => nb (by simp [z]))).trans q) fun b q => ?_)
  by_cases z : b = T
  · rw [z, hT] at q; cases q
  · exact (other b z).trans q
/-- nothing to land -/
theorem land1 {e : Addr} {tup C : Value} {dxo : Option Addr} {rest : List Value} {Q : Unit → Shared → Prop} (he : h.get? e = some (exG C dxo tup .none rest)) (k : Q () (St s h t)) : wpAny M A (setFlight (.ref e) none) Q E (St s h t) := by
  unfold setFlight
  refine wpAny_bind (wpAny_field he rfl (x := .none) rfl ?_)
  rw [if_neg (by decide)]
  exact wpAny_pure k
end
end Mine
end
section
open PySem PySem.W PySem.W.X PyProof.Rows PySem.Calls
namespace Mine
theorem fill3 : (fun (_ : OpenLaw) (_ : Params → Frag) => True) PySem.Challenge.rw_kl0193_01 hdK.heap_1 := by
  k_fill
  trivial
/-- a class of errors as the written part has it -/
structure EC (w : World) (C : Value) : Prop where
  base : ∀ (M : Model) (h : Heap), (hdK.heap_1 w.params).In h → Looks M h (isSubtype C (.type "BaseException")) true
  mt : ∀ (M : Model) (h : Heap), (hdK.heap_1 w.params).In h → Looks M h (typeOf C) (.type "type")
theorem ec276 {w : World} : EC w (.ref 276) := ⟨fun _ _ X => looks_subIn X (by k_is), fun _ _ X => looks_typeIn X (by k_is)⟩
theorem ec288 {w : World} : EC w (.ref 288) := ⟨fun _ _ X => looks_subIn X (by k_is), fun _ _ X => looks_typeIn X (by k_is)⟩
theorem ecNie {w : World} : EC w (.type "NotImplementedError") := ⟨fun _ _ X => looks_subIn X (by k_is), fun _ _ _ => Looks.of_pure (by kernel_rfl)⟩
theorem ecAtt {w : World} : EC w (.type "AttributeError") := ⟨fun _ _ X => looks_subIn X (by k_is), fun _ _ _ => Looks.of_pure (by kernel_rfl)⟩
section
variable {prog : Program} {w : World} {A : Around} {E : Value → Shared → Prop} {s : Shared} {env : Env}
theorem looks_at {α : Type} {M : Model} {t : Sem α} {r : α} {h : Heap} {g : Array GenState} {d : Drawn} {tk : Nat} {os : OsState} {Q : α → Shared → Prop} (x : Looks M h t r) (q : Q r ⟨h, g, d, tk, os⟩) : wpAny M A t Q E ⟨h, g, d, tk, os⟩ := x.here q
theorem raiseStmt0 {x : Sem Value} {Q : Flow → Shared → Prop} (hh : A.handled = none)
    (h : wpAny (model prog w) A x (fun v s₁ => ∃ e C dxo tup tb rest, v = .ref e ∧ (hdK.heap_1 w.params).In s₁.heap ∧ EC w C ∧ s₁.heap.get? e = some (exG C dxo tup tb rest) ∧ wpAny (model prog w) A (setFlight (.ref e) none) (fun _ s₂ => E (.ref e) s₂) E s₁) E s) :
    wpAny (model prog w) A (raiseStmt env (some x) none) Q E s := by
  unfold raiseStmt
  refine wpAny_bind (wpAny_mono h (fun v s₁ h₁ => ?_) fun _ _ x => x)
  obtain ⟨e, C, dxo, tup, tb, rest, rfl, X, ec, he, hE⟩ := h₁
  obtain ⟨hp, g, d, tk, os⟩ := s₁
  have l1 := ec.base (model prog w) _ X
  have l2 := ec.mt (model prog w) _ X
  dsimp only at he l1 l2
  repeat (first | exact wpAny_mono hE (fun _ s₂ h₂ => wpAny_raiseNew_none hh h₂) (fun _ _ x => x) | with_reducible refine wpAny_loadPart_at he ?_ | with_reducible refine looks_at l1 ?_ | with_reducible refine looks_at l2 ?_ | wp_step)
/-- raise e -/
theorem raise0 {xe : Expr} {pos : Pos} {Q : Flow → Shared → Prop} (hh : A.handled = none)
    (h : wpAny (model prog w) A (eval xe env) (fun v s₁ => ∃ e C dxo tup tb rest, v = .ref e ∧ (hdK.heap_1 w.params).In s₁.heap ∧ EC w C ∧ s₁.heap.get? e = some (exG C dxo tup tb rest) ∧ wpAny (model prog w) A (setFlight (.ref e) none) (fun _ s₂ => E (.ref e) s₂) E s₁) E s) :
    wpAny (model prog w) A (exec (.Raise (some xe) none pos) env) Q E s := by
  show wpAny (model prog w) A (do standAt pos; raiseStmt env (some (do let v ← eval xe env; standAt pos; pure v)) none) Q E s
  exact wpAny_bind (wpAny_standAt (raiseStmt0 hh (wpAny_bind (wpAny_mono h (fun v s₁ h₁ => wpAny_bind (wpAny_standAt (wpAny_pure h₁))) fun _ _ x => x))))
/-- a clause's test -/
theorem matches0 {C' : Value} {a : Addr} {C : Value} {dxo : Option Addr} {tup : Value} {tb : Value} {rest : List Value} {b : Bool} {h : Heap} {g : Array GenState} {d : Drawn} {tk : Nat} {os : OsState} {Q : Bool → Shared → Prop} (X : (hdK.heap_1 w.params).In h)
    (he : h.get? a = some (exG C dxo tup tb rest)) (hi : ∀ (M : Model), Looks M h (isInstance C' (.type "tuple")) false) (ht : ∀ M : Model, Looks M h (isExcClass C') true) (hs : ∀ M : Model, Looks M h (isSubtype C C') b) (k : Q b ⟨h, g, d, tk, os⟩) :
    wpAny (model prog w) A (excMatches (.ref a) C') Q E ⟨h, g, d, tk, os⟩ := by
  have l1 := hi (model prog w)
  have l2 := ht (model prog w)
  have l3 := hs (model prog w)
  unfold excMatches
  repeat (first | with_reducible refine looks_at l1 ?_ | with_reducible refine looks_at l2 ?_ | with_reducible refine looks_at l3 ?_ | with_reducible refine wpAny_loadPart_at he ?_ | wp_step)
  cases b <;> (wp_walk; exact k)
end
end Mine
end
section
open PySem PySem.W PySem.W.X PyProof.Rows PySem.Calls
namespace Mine
theorem fill4 : (fun (_ : OpenLaw) (_ : Params → Frag) => True) PySem.Challenge.rw_kl0193_01 hdK.heap_1 := by
  k_fill
  trivial
/-- a clause's class against an error's -/
structure CL (w : World) (C C' : Value) (b : Bool) : Prop where
  i : ∀ (M : Model) (h : Heap), (hdK.heap_1 w.params).In h → Looks M h (isInstance C' (.type "tuple")) false
  t : ∀ (M : Model) (h : Heap), (hdK.heap_1 w.params).In h → Looks M h (isExcClass C') true
  s : ∀ (M : Model) (h : Heap), (hdK.heap_1 w.params).In h → Looks M h (isSubtype C C') b
theorem excCls {w : World} {a : Addr} {o : ClassData} {x : Value} {d : Option Addr} {sl : Array (Option Value)} (h1 : (hdK.heap_1 w.params).lookup a = some ⟨x, d, .cls o, sl⟩) (h2 : subIn (hdK.heap_1 w.params) (.ref a) (.type "BaseException") = some true) (M : Model) (h : Heap) (X : (hdK.heap_1 w.params).In h) : Looks M h (isExcClass (.ref a)) true := by
  intro A Q E s k q
  unfold isExcClass
  refine wpAny_bind ?_
  unfold isType
  refine wpAny_bind (wpAny_loadPart (k _ _ (X _ _ h1)) (wpAny_pure ?_))
  rw [if_pos rfl]
  exact looks_subIn X h2 A Q E s k q
theorem excClsT {w : World} {n : String} (h2 : subIn (hdK.heap_1 w.params) (.type n) (.type "BaseException") = some true) (M : Model) (h : Heap) (X : (hdK.heap_1 w.params).In h) : Looks M h (isExcClass (.type n)) true := by
  intro A Q E s k q
  unfold isExcClass
  refine wpAny_bind ?_
  unfold isType
  refine wpAny_pure ?_
  rw [if_pos rfl]
  exact looks_subIn X h2 A Q E s k q
theorem tupT {n T : String} (h1 : (Manifest.find? n).elim "type" (fun x => x.metatype) = T) (h2 : isSubtype (.type T) (.type "tuple") = pure false) (M : Model) (h : Heap) : Looks M h (isInstance (.type n) (.type "tuple")) false := by
  intro A Q E s k q
  unfold isInstance
  refine wpAny_bind (wpAny_pure ?_)
  rw [show (Value.type ((Manifest.find? n).elim "type" (·.metatype))) = .type T from by rw [← h1], h2]
  exact wpAny_pure q
section
variable {w : World}
theorem cl_276_288 : CL w (.ref 276) (.ref 288) false := ⟨fun _ _ X => looks_instIn X (by k_is), excCls (by k_is) (by k_is), fun _ _ X => looks_subIn X (by k_is)⟩
theorem cl_276_276 : CL w (.ref 276) (.ref 276) true := ⟨fun _ _ X => looks_instIn X (by k_is), excCls (by k_is) (by k_is), fun _ _ X => looks_subIn X (by k_is)⟩
theorem cl_288_288 : CL w (.ref 288) (.ref 288) true := ⟨fun _ _ X => looks_instIn X (by k_is), excCls (by k_is) (by k_is), fun _ _ X => looks_subIn X (by k_is)⟩
theorem cl_nie_288 : CL w (.type "NotImplementedError") (.ref 288) false := ⟨fun _ _ X => looks_instIn X (by k_is), excCls (by k_is) (by k_is), fun _ _ X => looks_subIn X (by k_is)⟩
theorem cl_nie_276 : CL w (.type "NotImplementedError") (.ref 276) false := ⟨fun _ _ X => looks_instIn X (by k_is), excCls (by k_is) (by k_is), fun _ _ X => looks_subIn X (by k_is)⟩
theorem cl_nie_nie : CL w (.type "NotImplementedError") (.type "NotImplementedError") true := ⟨fun _ _ _ => tupT (by kernel_rfl) tc_notTuple _ _, excClsT (by k_is), fun _ _ X => looks_subIn X (by k_is)⟩
theorem cl_276_sax : CL w (.ref 276) (.ref 263) true := ⟨fun _ _ X => looks_instIn X (by k_is), excCls (by k_is) (by k_is), fun _ _ X => looks_subIn X (by k_is)⟩
theorem cl_288_sax : CL w (.ref 288) (.ref 263) true := ⟨fun _ _ X => looks_instIn X (by k_is), excCls (by k_is) (by k_is), fun _ _ X => looks_subIn X (by k_is)⟩
theorem cl_nie_sax : CL w (.type "NotImplementedError") (.ref 263) false := ⟨fun _ _ X => looks_instIn X (by k_is), excCls (by k_is) (by k_is), fun _ _ X => looks_subIn X (by k_is)⟩
theorem cl_att_sax : CL w (.type "AttributeError") (.ref 263) false := ⟨fun _ _ X => looks_instIn X (by k_is), excCls (by k_is) (by k_is), fun _ _ X => looks_subIn X (by k_is)⟩
theorem cl_att_nie : CL w (.type "AttributeError") (.type "NotImplementedError") false := ⟨fun _ _ _ => tupT (by kernel_rfl) tc_notTuple _ _, excClsT (by k_is), fun _ _ X => looks_subIn X (by k_is)⟩
theorem cl_att_att : CL w (.type "AttributeError") (.type "AttributeError") true := ⟨fun _ _ _ => tupT (by kernel_rfl) tc_notTuple _ _, excClsT (by k_is), fun _ _ X => looks_subIn X (by k_is)⟩
end
section
variable {prog : Program} {w : World} {A : Around} {E : Value → Shared → Prop} {s : Shared} {h h₀ : Heap} {t : Nat}
theorem clause_test {env : Env} {e : Addr} {C C' : Value} {dxo : Option Addr} {tup : Value} {tb : Value} {rest : List Value} {b : Bool} {tE : Expr} {pos : Pos} {R : Result → Shared → Prop} (X : (hdK.heap_1 w.params).In h) (he : h.get? e = some (exG C dxo tup tb rest)) (cl : CL w C C' b)
    (hev : ∀ (A' : Around) (Q' : Value → Shared → Prop) (N : Value → Shared → Prop), Q' C' (St s h t) → wpAny (model prog w) A' (eval tE env) Q' N (St s h t)) (k : R (.ok (if b then .brk else .next)) (St s h t)) :
    codeAny (model prog w) A (.handlers (.ref e) [.ExceptHandler (some tE) none [] pos] env) R (St s h t) :=
  codeAny_handlers_test (hev _ _ _ (matches0 X he (fun M => cl.i M _ X) (fun M => cl.t M _ X) (fun M => cl.s M _ X) k))
theorem clause_no {env : Env} {e : Addr} {C C' : Value} {dxo : Option Addr} {tup : Value} {tb : Value} {rest : List Value} {tE : Expr} {nm : Option Str} {body : List Stmt} {pos : Pos} {hs : List ExceptHandler} {Q : Flow → Shared → Prop} (X : (hdK.heap_1 w.params).In h) (he : h.get? e = some (exG C dxo tup tb rest)) (cl : CL w C C' false)
    (hev : ∀ (A' : Around) (Q' : Value → Shared → Prop) (N : Value → Shared → Prop), Q' C' (St s h t) → wpAny (model prog w) A' (eval tE env) Q' N (St s h t)) (k : wpAny (model prog w) A (handleBy (.ref e) env hs) Q E (St s h t)) :
    wpAny (model prog w) A (handleBy (.ref e) env (.ExceptHandler (some tE) nm body pos :: hs)) Q E (St s h t) :=
  wpAny_handleBy_cons (clause_test X he cl hev k) (by intro q; cases q)
/-- a clause that binds the error and returns -/
theorem clause_as {e : Addr} {C C' : Value} {dxo : Option Addr} {tup : Value} {T : Addr} {rest : List Value} {tE : Expr} {n : Str} {b₀ : Stmt} {body : List Stmt} {pos : Pos} {hs : List ExceptHandler} {Q : Flow → Shared → Prop} {cn : Str} {cs : Scope} {L f : Addr} {cd : Value} {m : Str → Option Value}
    (X : (hdK.heap_1 w.params).In h) (F : Fr h₀ L h m) (R : Rz h e C dxo tup rest T .none) (hTL : T ≠ L) (heL : e ≠ L) (hT0 : h₀.get? T = none) (cl : CL w C C' true)
    (hev : ∀ (A' : Around) (Q' : Value → Shared → Prop) (N : Value → Shared → Prop), Q' C' (St s h t) → wpAny (model prog w) A' (eval tE (envOf cn cs L f cd)) Q' N (St s h t))
    (k : ∀ h₂ t₂, Fr h₀ L h₂ (fun y => if y = n then some (.ref e) else m y) → Rz h₂ e C dxo tup rest T .none → Ex [T, L] h h₂ → (∀ b, h.get? b = none → h₂.get? b = none) →
      wpAny (model prog w) (A.mark (some (.ref e))) (execs (b₀ :: body) (envOf cn cs L f cd)) (fun fl s₃ => ∃ h₃ t₃ m₃ v, fl = .ret v ∧ s₃ = St s h₃ t₃ ∧ Fr h₀ L h₃ m₃ ∧ ∀ h₄ t₄ m₄, Fr h₀ L h₄ m₄ → Ex [L] h₃ h₄ → Q (.ret v) (St s h₄ t₄)) (fun _ _ => False) (St s h₂ t₂))
    (hk : cs.kind = .function := by rfl) (hlo : (envOf cn cs L f cd).kindOf n = some .local := by rfl) :
    wpAny (model prog w) A (handleBy (.ref e) (envOf cn cs L f cd) (.ExceptHandler (some tE) (some n) (b₀ :: body) pos :: hs)) Q E (St s h t) := by
  have hp : (cs.kind == ScopeKind.class || (cs.kind == ScopeKind.module && L != mainGlobals)) = false := by rw [hk]; rfl
  refine wpAny_handleBy_cons (clause_test X R.exc cl hev ?_) (by intro q; cases q)
  show codeAny _ _ _ _ _
  refine codeAny_handlers_suite_as (land0 R fun h₁ R₁ e₁ n₁ => ?_)
  have F₁ := fr_ex F e₁ (by simpa using Ne.symm hTL) (by simpa using hT0)
  refine PySem.wpAny_storeName_local hlo F₁.ns (fun h₂ n₂ b₂ => ?_) hp
  have F₂ := F₁.set n₂ b₂
  have x₂ : Ex [L] h₁ h₂ := Ex.sameBut b₂
  obtain ⟨ts, hts, hts2⟩ := R₁.tb
  have R₂ : Rz h₂ e C dxo tup rest T .none := ⟨x₂ _ _ (by simpa using heL) R₁.exc, R₁.ne, ts, x₂ _ _ (by simpa using hTL) hts, hts2⟩
  have nn : ∀ b, h.get? b = none → h₂.get? b = none := fun b q => (b₂.2 b (fun z => by
    obtain ⟨o, ho⟩ := fr_live F
    have z' : b = L := z
    rw [z', ho] at q; cases q)).trans (n₁ b q)
  refine wpAny_mono (k h₂ _ F₂ R₂ (e₁.two x₂) nn) (fun fl s₃ h₃ => ?_) fun _ _ x => x.elim
  obtain ⟨h₃, t₃, m₃, v, rfl, rfl, F₃, q⟩ := h₃
  refine wpAny_nameGoes hlo F₃.ns hp fun h₄ m₄ n₄ b₄ => ?_
  exact q h₄ _ m₄ (F₃.set n₄ b₄) (Ex.sameBut b₄)
end
end Mine
end
section
open PySem PySem.W PySem.W.X PyProof.Rows PySem.Calls
namespace Mine
theorem feat_mod {prog : Program} {w : World} {A : Around} {E : Value → Shared → Prop} {s : Shared} (X : (hdK.heap_1 w.params).In s.heap) {y : Str} {t u : Tok} (hy : y.length ≤ 1000000) {Q : Value → Shared → Prop}
    (k : ∀ t' k, Q (.str ("Feature '" ++ y ++ "' not recognized") t') { s with toks := k }) : wpAny (model prog w) A (binaryOp .Mod (.str "Feature '%s' not recognized" t) (.str y u)) Q E s := by
  walk_at "binaryOp Mod str str"
  exact k _ _
theorem prop_mod {prog : Program} {w : World} {A : Around} {E : Value → Shared → Prop} {s : Shared} (X : (hdK.heap_1 w.params).In s.heap) {y : Str} {t u : Tok} (hy : y.length ≤ 1000000) {Q : Value → Shared → Prop}
    (k : ∀ t' k, Q (.str ("Property '" ++ y ++ "' not recognized") t') { s with toks := k }) : wpAny (model prog w) A (binaryOp .Mod (.str "Property '%s' not recognized" t) (.str y u)) Q E s := by
  walk_at "binaryOp Mod str str"
  exact k _ _
end Mine
end
section
open PySem PySem.W PySem.W.X PyProof.Rows PySem.Calls
namespace Mine
theorem fill5 : (fun (_ : OpenLaw) (_ : Params → Frag) => True) PySem.Challenge.rw_kl0193_01 hdK.heap_1 := by
  k_fill
  trivial
/-- the frames of a stack -/
abbrev frs (l : List Env) : List Addr := l.filterMap (·.frame)
/-- what hangs on an error: a SAX error's dict, a built-in error's arguments -/
def AuxO (C : Value) (dxo : Option Addr) (tup : Value) (y : Addr) (x : Str) (o : Obj) : Prop :=
  ((C = .ref 276 ∨ C = .ref 288) ∧ dxo = some y ∧ ∃ k1 k2 t1 t2 n tx, o = dct #[⟨k1, .str "_msg" t1, .str x tx⟩, ⟨k2, .str "_exception" t2, .none⟩] n) ∨
  (C = .type "NotImplementedError" ∧ dxo = none ∧ tup = .ref y ∧ ∃ tx, o = ⟨.type "tuple", none, .seq #[.str x tx] 0, #[]⟩)
/-- an error that a method raised -/
def NewErr (h h' : Heap) (x : Str) (e : Addr) (C : Value) (T : Addr) : Prop :=
  ∃ dxo tup y o, Rz h' e C dxo tup xr T .none ∧ AuxO C dxo tup y x o ∧ h'.get? y = some o ∧ h.get? e = none ∧ h.get? T = none ∧ h.get? y = none ∧ y ≠ e ∧ y ≠ T
theorem Lf.use2 {prog : Program} {w : World} {A : Around} {t : Sem Value} {s : Shared} {h : Heap} {k : Nat} {P : Value → Heap → Prop} {Q : Value → Shared → Prop} {E : Value → Shared → Prop}
    (x : wpAny (model prog w) A t (Lf s h P) E (St s h k)) (q : ∀ v h' tk, h.StaysIn h' → P v h' → Q v (St s h' tk)) : wpAny (model prog w) A t Q E (St s h k) :=
  wpAny_mono x (fun v s' ⟨h', tk, e, k, p⟩ => e ▸ q v h' tk k p) fun _ _ x => x
section
variable {prog : Program} {w : World} {mg mb : Str → Option Value} {A : Around} {E : Value → Shared → Prop} {s : Shared} {h h₀ : Heap} {t : Nat}
theorem fly_new {outer : List Env} {R : Result → Shared → Prop} {e : Addr} {tup C : Value} {dxo : Option Addr} {rest : List Value} {cn : Str} {cs : Scope} {L f : Addr} {cd : Value} {m : Str → Option Value}
    (hfr : A.frames = some outer) (hl : h.FunFrames {} outer) (F : Fr h₀ L h m) (he : h.get? e = some (exG C dxo tup .none rest))
    (k : ∀ h₃ T, Rz h₃ e C dxo tup rest T .none → Chg (L :: frs outer) (fun b => b = e) h h₃ → h.get? T = none → R (.error (.ref e)) (St s h₃ t)) (hk : cs.kind = .function := by rfl) :
    wpAny (model prog w) (A.deeper (envOf cn cs L f cd)) (setFlight (.ref e) none) (fun _ s₂ => wpAny (model prog w) (A.deeper (envOf cn cs L f cd)) (leaving (envOf cn cs L f cd) (.ref e)) (fun _ s'' => R (.error (.ref e)) s'') (fun e' s'' => R (.error e') s'') s₂) E (St s h t) := by
  refine land1 he ?_
  unfold leaving
  have hF : h.FunFrames {} (envOf cn cs L f cd :: outer) := Heap.FunFrames.cons (by show cs.kind ≠ _; rw [hk]; decide) rfl F.ns rfl hl
  refine wpAny_bind (note0 (Around.frames_deeper hfr) hF rfl he (.inl rfl) fun h₁ T hT R₁ c₁ => ?_)
  refine land0 R₁ fun h₂ R₂ x₂ n₂ => ?_
  refine k h₂ T R₂ ⟨fun b o nb nx q => ?_, fun l hl o q => ?_⟩ hT
  · refine x₂ b o (fun z => ?_) (c₁.keep b o nb (fun z => z.elim nx (fun z => by cases z)) q)
    rw [List.mem_singleton.mp z, hT] at q; cases q
  · obtain ⟨sl, q1⟩ := c₁.fram l hl o q
    exact ⟨sl, x₂ l _ (fun z => by rw [List.mem_singleton.mp z, hT] at q; cases q) q1⟩

/-- what is left of a method that raises a new SAX error -/
theorem raise_sax (B : Base0 w mg mb h₀) {outer : List Env} {R : Result → Shared → Prop} {C : Addr} {x : Str} {cn : Str} {cs : Scope} {L f : Addr} {cd : Value} {m : Str → Option Value} {xe : Expr} {pos : Pos} {hh : Heap} {Q : Flow → Shared → Prop}
    (am : Am A 450 1800) (hfr : A.frames = some outer) (hl : h.FunFrames {} outer) (F : Fr h₀ L h m) (k0 : hh.StaysIn h) (hL : hh.get? L = none) (hC : C = 276 ∨ C = 288)
    (ev : ∀ (Q' E' : Value → Shared → Prop), (∀ t' tx, wpAny (model prog w) (A.deeper (envOf cn cs L f cd)) (call (.ref C) [.str x tx]) Q' E' (St s h t')) → wpAny (model prog w) (A.deeper (envOf cn cs L f cd)) (eval xe (envOf cn cs L f cd)) Q' E' (St s h t))
    (k : ∀ h' t' e T, NewErr hh h' x e (.ref C) T → Chg (frs outer) (fun _ => False) hh h' → R (.error (.ref e)) (St s h' t')) (hk : cs.kind = .function := by rfl) :
    wpAny (model prog w) (A.deeper (envOf cn cs L f cd)) (exec (.Raise (some xe) none pos) (envOf cn cs L f cd)) Q (fun e s' => wpAny (model prog w) (A.deeper (envOf cn cs L f cd)) (leaving (envOf cn cs L f cd) e) (fun _ s'' => R (.error e) s'') (fun e' s'' => R (.error e') s'') s') (St s h t) := by
  have am' : Am (A.deeper (envOf cn cs L f cd)) 500 2000 := (am.deeper _).mono
  have X : (hdK.heap_1 w.params).In h := (Bs.of F).in B
  refine raise0 am'.handled (ev _ _ fun t' tx => ?_)
  have leaf : wpAny (model prog w) A1 (call (.ref C) [.str x tx]) (Lf s h (NewSax C x tx h)) (fun e s' => wpAny (model prog w) (A.deeper (envOf cn cs L f cd)) (leaving (envOf cn cs L f cd) e) (fun _ s'' => R (.error e) s'') (fun e' s'' => R (.error e') s'') s') (St s h t') := by
    rcases hC with rfl | rfl
    · exact newRec_leaf X
    · exact newSup_leaf X
  refine Lf.use2 (lift am' leaf) fun v h₁ t₁ k₁ hv => ?_
  obtain ⟨e, dx, tup, rfl, hed, hne, hnd, he, hED⟩ := hv
  have F₁ := F.keeps k₁
  have hl₁ : h₁.FunFrames {} outer := funF_ex (Ex.of_stays (S := []) k₁) hl (by simp)
  have ec : EC w (.ref C) := by rcases hC with rfl | rfl; exact ec276; exact ec288
  refine ⟨e, .ref C, some dx, .ref tup, .none, xr, rfl, X.keeps k₁, ec, he, ?_⟩
  refine fly_new hfr hl₁ F₁ he (fun h₂ T R₂ c₂ hT => ?_) hk
  obtain ⟨k1, k2, t1, t2, n, hED⟩ := hED
  have hTd : dx ≠ T := fun z => by rw [z, hT] at hED; cases hED
  refine k h₂ t₁ e T ⟨_, _, dx, _, R₂, .inl ⟨by rcases hC with rfl | rfl; exact .inl rfl; exact .inr rfl, rfl, k1, k2, t1, t2, n, tx, rfl⟩, c₂.keep dx _ ?_ (fun z => hed z.symm) hED, none_of k0 hne, none_of (stays_trans k0 k₁) hT, none_of k0 hnd, Ne.symm hed, hTd⟩ ?_
  · intro hm
    rcases List.mem_cons.mp hm with z | hm
    · obtain ⟨o, ho⟩ := fr_live F
      rw [z, ho] at hnd; cases hnd
    · obtain ⟨_, o, ho, _⟩ := hl.mem hm
      rw [ho] at hnd; cases hnd
  · have c : Chg (L :: frs outer) (fun _ => False) hh h₂ := (Chg.stays_left (stays_trans k0 k₁) c₂).mono fun b o q z => by
      rw [z] at q; rw [none_of k0 hne] at q; cases q
    exact c.less hL
/-- what is left of a method that raises a new NotImplementedError -/
theorem raise_nie (B : Base0 w mg mb h₀) {outer : List Env} {R : Result → Shared → Prop} {x : Str} {cn : Str} {cs : Scope} {L f : Addr} {cd : Value} {m : Str → Option Value} {xe : Expr} {pos : Pos} {hh : Heap} {Q : Flow → Shared → Prop}
    (am : Am A 450 1800) (hfr : A.frames = some outer) (hl : h.FunFrames {} outer) (F : Fr h₀ L h m) (k0 : hh.StaysIn h) (hL : hh.get? L = none)
    (ev : ∀ (Q' E' : Value → Shared → Prop), (∀ t' tx, wpAny (model prog w) (A.deeper (envOf cn cs L f cd)) (call (.type "NotImplementedError") [.str x tx]) Q' E' (St s h t')) → wpAny (model prog w) (A.deeper (envOf cn cs L f cd)) (eval xe (envOf cn cs L f cd)) Q' E' (St s h t))
    (k : ∀ h' t' e T, NewErr hh h' x e (.type "NotImplementedError") T → Chg (frs outer) (fun _ => False) hh h' → R (.error (.ref e)) (St s h' t')) (hk : cs.kind = .function := by rfl) :
    wpAny (model prog w) (A.deeper (envOf cn cs L f cd)) (exec (.Raise (some xe) none pos) (envOf cn cs L f cd)) Q (fun e s' => wpAny (model prog w) (A.deeper (envOf cn cs L f cd)) (leaving (envOf cn cs L f cd) e) (fun _ s'' => R (.error e) s'') (fun e' s'' => R (.error e') s'') s') (St s h t) := by
  have am' : Am (A.deeper (envOf cn cs L f cd)) 500 2000 := (am.deeper _).mono
  have X : (hdK.heap_1 w.params).In h := (Bs.of F).in B
  refine raise0 am'.handled (ev _ _ fun t' tx => ?_)
  refine Lf.use2 (lift am' (newNie_leaf X)) fun v h₁ t₁ k₁ hv => ?_
  obtain ⟨e, tup, rfl, hed, hne, hnd, he, hED⟩ := hv
  have F₁ := F.keeps k₁
  have hl₁ : h₁.FunFrames {} outer := funF_ex (Ex.of_stays (S := []) k₁) hl (by simp)
  refine ⟨e, _, none, .ref tup, .none, xr, rfl, X.keeps k₁, ecNie, he, ?_⟩
  refine fly_new hfr hl₁ F₁ he (fun h₂ T R₂ c₂ hT => ?_) hk
  have hTd : tup ≠ T := fun z => by rw [z, hT] at hED; cases hED
  refine k h₂ t₁ e T ⟨_, _, tup, _, R₂, .inr ⟨rfl, rfl, rfl, tx, rfl⟩, c₂.keep tup _ ?_ (fun z => hed z.symm) hED, none_of k0 hne, none_of (stays_trans k0 k₁) hT, none_of k0 hnd, Ne.symm hed, hTd⟩ ?_
  · intro hm
    rcases List.mem_cons.mp hm with z | hm
    · obtain ⟨o, ho⟩ := fr_live F
      rw [z, ho] at hnd; cases hnd
    · obtain ⟨_, o, ho, _⟩ := hl.mem hm
      rw [ho] at hnd; cases hnd
  · have c : Chg (L :: frs outer) (fun _ => False) hh h₂ := (Chg.stays_left (stays_trans k0 k₁) c₂).mono fun b o q z => by
      rw [z] at q; rw [none_of k0 hne] at q; cases q
    exact c.less hL
/-- what lands in the frame's own try -/
theorem land_try {env : Env} {L : Addr} {e T : Addr} {tup C : Value} {dxo : Option Addr} {rest : List Value} {outer : List Env} {Q : Unit → Shared → Prop} (hfr : A.frames = some (env :: outer)) (hl : h.FunFrames {} (env :: outer)) (hf : env.frame = some L) (R : Rz h e C dxo tup rest T .none)
    (k : ∀ h₄ T', Rz h₄ e C dxo tup rest T' .none → Chg (frs (env :: outer)) (fun b => b = e ∨ b = T) h h₄ → h.get? T' = none → Q () (St s h₄ t)) :
    wpAny (model prog w) A (noteFrame (.ref e) env) (fun _ s₂ => wpAny (model prog w) A (setFlight (.ref e) none) Q E s₂) E (St s h t) := by
  obtain ⟨ts, hT, h3⟩ := R.tb
  refine note0 hfr hl hf R.exc (.inr ⟨T, ts, rfl, R.ne, hT, h3⟩) fun h₁ T' hT' R₁ c₁ => ?_
  refine land0 R₁ fun h₂ R₂ x₂ n₂ => k h₂ T' R₂ ⟨fun b o nb nx q => ?_, fun l hl o q => ?_⟩ hT'
  · refine x₂ b o (fun z => ?_) (c₁.keep b o nb (fun z => nx (z.elim .inl fun z => .inr (by cases z; rfl))) q)
    rw [List.mem_singleton.mp z, hT'] at q; cases q
  · obtain ⟨sl, q1⟩ := c₁.fram l hl o q
    exact ⟨sl, x₂ l _ (fun z => by rw [List.mem_singleton.mp z, hT'] at q; cases q) q1⟩
end
end Mine
end
section
open PySem PySem.W PySem.W.X PyProof.Rows PySem.Calls
namespace Mine
theorem fill6 : (fun (_ : OpenLaw) (_ : Params → Frag) => True) PySem.Challenge.rw_kl0193_01 hdK.heap_1 := by
  k_fill
  trivial
section
variable {prog : Program} {w : World} {mg mb : Str → Option Value} {A : Around} {E : Value → Shared → Prop} {s : Shared} {h h₀ : Heap} {t : Nat} {outer : List Env}

theorem boot_nie : bootBuiltins "NotImplementedError" = some (.type "NotImplementedError") := by decide +kernel

theorem c_setLocale (B : Base0 w mg mb h₀) (b : Bs h₀ h) (am : Am A 450 1800) (hfr : A.frames = some outer) (hl : h.FunFrames {} outer) {r : Addr} {v : Value} {Q : Value → Shared → Prop}
    (k : ∀ h' t' e T, NewErr h h' ("Locale support not implemented") e (.ref 288) T → Chg (frs outer) (fun _ => False) h h' → E (.ref e) (St s h' t')) :
    wpAny (model prog w) A (call (.ref 386) [.ref r, v]) Q E (St s h t) := by
  refine wpAny_call (enter B b am (binds := [("self", .ref r), ("locale", v)]) (by k_is) (by k_is) (BindsTo.of_eq rfl) (locs rfl) (fun h₁ F k₁ => ?_))
  have hl₁ : h₁.FunFrames {} outer := funF_ex (Ex.of_stays (S := []) k₁) hl (by simp)
  have X : (hdK.heap_1 w.params).In h₁ := (Bs.of F).in B
  refine wpAny_execs_cons ?_
  refine raise_sax B am hfr hl₁ F k₁ (size_none h) (Or.inr rfl) (x := "Locale support not implemented") (R := fun r s' => match r with | .ok (.ret v) => Q v s' | .ok _ => False | .error e => E e s') ?_ ?_
  · exact fun Q' E' q => Call_ (name_K F B.X B.T (by k_is) (callWith_K X (by k_is) (spliced_more (Constant_str (spliced_none ⟨X, q _ _⟩)))))
  · exact fun h' t' e T n c => k h' t' e T n c

theorem c_getFeature (B : Base0 w mg mb h₀) (b : Bs h₀ h) (am : Am A 450 1800) (hfr : A.frames = some outer) (hl : h.FunFrames {} outer) {r : Addr} {x : Str} {tx : Tok} (hx : x.length ≤ 1000000) {Q : Value → Shared → Prop}
    (k : ∀ h' t' e T, NewErr h h' ("Feature '" ++ x ++ "' not recognized") e (.ref 276) T → Chg (frs outer) (fun _ => False) h h' → E (.ref e) (St s h' t')) :
    wpAny (model prog w) A (call (.ref 393) [.ref r, .str x tx]) Q E (St s h t) := by
  refine wpAny_call (enter B b am (binds := [("self", .ref r), ("name", .str x tx)]) (by k_is) (by k_is) (BindsTo.of_eq rfl) (locs rfl) (fun h₁ F k₁ => ?_))
  have hl₁ : h₁.FunFrames {} outer := funF_ex (Ex.of_stays (S := []) k₁) hl (by simp)
  have X : (hdK.heap_1 w.params).In h₁ := (Bs.of F).in B
  refine wpAny_execs_cons ?_
  refine raise_sax B am hfr hl₁ F k₁ (size_none h) (Or.inl rfl) (x := "Feature '" ++ x ++ "' not recognized") (R := fun r s' => match r with | .ok (.ret v) => Q v s' | .ok _ => False | .error e => E e s') ?_ ?_
  · exact fun Q' E' q => Call_ (name_K F B.X B.T (by k_is) (callWith_K X (by k_is) (spliced_more (wpAny_BinOp (Constant_str (ld F rfl (feat_mod X hx fun t' k => spliced_none ⟨X, q _ _⟩)))))))
  · exact fun h' t' e T n c => k h' t' e T n c

theorem c_setFeature (B : Base0 w mg mb h₀) (b : Bs h₀ h) (am : Am A 450 1800) (hfr : A.frames = some outer) (hl : h.FunFrames {} outer) {r : Addr} {x : Str} {tx : Tok} {v : Value} (hx : x.length ≤ 1000000) {Q : Value → Shared → Prop}
    (k : ∀ h' t' e T, NewErr h h' ("Feature '" ++ x ++ "' not recognized") e (.ref 276) T → Chg (frs outer) (fun _ => False) h h' → E (.ref e) (St s h' t')) :
    wpAny (model prog w) A (call (.ref 400) [.ref r, .str x tx, v]) Q E (St s h t) := by
  refine wpAny_call (enter B b am (binds := [("self", .ref r), ("name", .str x tx), ("state", v)]) (by k_is) (by k_is) (BindsTo.of_eq rfl) (locs rfl) (fun h₁ F k₁ => ?_))
  have hl₁ : h₁.FunFrames {} outer := funF_ex (Ex.of_stays (S := []) k₁) hl (by simp)
  have X : (hdK.heap_1 w.params).In h₁ := (Bs.of F).in B
  refine wpAny_execs_cons ?_
  refine raise_sax B am hfr hl₁ F k₁ (size_none h) (Or.inl rfl) (x := "Feature '" ++ x ++ "' not recognized") (R := fun r s' => match r with | .ok (.ret v) => Q v s' | .ok _ => False | .error e => E e s') ?_ ?_
  · exact fun Q' E' q => Call_ (name_K F B.X B.T (by k_is) (callWith_K X (by k_is) (spliced_more (wpAny_BinOp (Constant_str (ld F rfl (feat_mod X hx fun t' k => spliced_none ⟨X, q _ _⟩)))))))
  · exact fun h' t' e T n c => k h' t' e T n c

theorem c_getProperty (B : Base0 w mg mb h₀) (b : Bs h₀ h) (am : Am A 450 1800) (hfr : A.frames = some outer) (hl : h.FunFrames {} outer) {r : Addr} {x : Str} {tx : Tok} (hx : x.length ≤ 1000000) {Q : Value → Shared → Prop}
    (k : ∀ h' t' e T, NewErr h h' ("Property '" ++ x ++ "' not recognized") e (.ref 276) T → Chg (frs outer) (fun _ => False) h h' → E (.ref e) (St s h' t')) :
    wpAny (model prog w) A (call (.ref 407) [.ref r, .str x tx]) Q E (St s h t) := by
  refine wpAny_call (enter B b am (binds := [("self", .ref r), ("name", .str x tx)]) (by k_is) (by k_is) (BindsTo.of_eq rfl) (locs rfl) (fun h₁ F k₁ => ?_))
  have hl₁ : h₁.FunFrames {} outer := funF_ex (Ex.of_stays (S := []) k₁) hl (by simp)
  have X : (hdK.heap_1 w.params).In h₁ := (Bs.of F).in B
  refine wpAny_execs_cons ?_
  refine raise_sax B am hfr hl₁ F k₁ (size_none h) (Or.inl rfl) (x := "Property '" ++ x ++ "' not recognized") (R := fun r s' => match r with | .ok (.ret v) => Q v s' | .ok _ => False | .error e => E e s') ?_ ?_
  · exact fun Q' E' q => Call_ (name_K F B.X B.T (by k_is) (callWith_K X (by k_is) (spliced_more (wpAny_BinOp (Constant_str (ld F rfl (prop_mod X hx fun t' k => spliced_none ⟨X, q _ _⟩)))))))
  · exact fun h' t' e T n c => k h' t' e T n c

theorem c_setProperty (B : Base0 w mg mb h₀) (b : Bs h₀ h) (am : Am A 450 1800) (hfr : A.frames = some outer) (hl : h.FunFrames {} outer) {r : Addr} {x : Str} {tx : Tok} {v : Value} (hx : x.length ≤ 1000000) {Q : Value → Shared → Prop}
    (k : ∀ h' t' e T, NewErr h h' ("Property '" ++ x ++ "' not recognized") e (.ref 276) T → Chg (frs outer) (fun _ => False) h h' → E (.ref e) (St s h' t')) :
    wpAny (model prog w) A (call (.ref 414) [.ref r, .str x tx, v]) Q E (St s h t) := by
  refine wpAny_call (enter B b am (binds := [("self", .ref r), ("name", .str x tx), ("value", v)]) (by k_is) (by k_is) (BindsTo.of_eq rfl) (locs rfl) (fun h₁ F k₁ => ?_))
  have hl₁ : h₁.FunFrames {} outer := funF_ex (Ex.of_stays (S := []) k₁) hl (by simp)
  have X : (hdK.heap_1 w.params).In h₁ := (Bs.of F).in B
  refine wpAny_execs_cons ?_
  refine raise_sax B am hfr hl₁ F k₁ (size_none h) (Or.inl rfl) (x := "Property '" ++ x ++ "' not recognized") (R := fun r s' => match r with | .ok (.ret v) => Q v s' | .ok _ => False | .error e => E e s') ?_ ?_
  · exact fun Q' E' q => Call_ (name_K F B.X B.T (by k_is) (callWith_K X (by k_is) (spliced_more (wpAny_BinOp (Constant_str (ld F rfl (prop_mod X hx fun t' k => spliced_none ⟨X, q _ _⟩)))))))
  · exact fun h' t' e T n c => k h' t' e T n c

theorem c_parse (B : Base0 w mg mb h₀) (b : Bs h₀ h) (am : Am A 450 1800) (hfr : A.frames = some outer) (hl : h.FunFrames {} outer) {r : Addr} {v : Value} {Q : Value → Shared → Prop}
    (k : ∀ h' t' e T, NewErr h h' ("This method must be implemented!") e (.type "NotImplementedError") T → Chg (frs outer) (fun _ => False) h h' → E (.ref e) (St s h' t')) :
    wpAny (model prog w) A (call (.ref 323) [.ref r, v]) Q E (St s h t) := by
  refine wpAny_call (enter B b am (binds := [("self", .ref r), ("source", v)]) (by k_is) (by k_is) (BindsTo.of_eq rfl) (locs rfl) (fun h₁ F k₁ => ?_))
  have hl₁ : h₁.FunFrames {} outer := funF_ex (Ex.of_stays (S := []) k₁) hl (by simp)
  have X : (hdK.heap_1 w.params).In h₁ := (Bs.of F).in B
  refine wpAny_execs_cons ?_
  refine raise_nie B am hfr hl₁ F k₁ (size_none h) (x := "This method must be implemented!") (R := fun r s' => match r with | .ok (.ret v) => Q v s' | .ok _ => False | .error e => E e s') ?_ ?_
  · exact fun Q' E' q => by
      refine Call_ (name_B F B.X B.T (by k_is) boot_nie (by decide) ?_)
      refine PySem.callWith_type1 ?_
      exact Constant_str (k := 0) (pos := ⟨0, 0, 0, 0⟩) (q _ _)
  · exact fun h' t' e T n c => k h' t' e T n c

end
end Mine
end
section
open PySem PySem.W PySem.W.X PyProof.Rows PySem.Calls
namespace Mine
theorem fill7 : (fun (_ : OpenLaw) (_ : Params → Frag) => True) PySem.Challenge.rw_kl0193_01 hdK.heap_1 := by
  k_fill
  trivial
abbrev scRef : Scope := { kind := ScopeKind.function, names := [(Str.ofString "reader", NameKind.local), (Str.ofString "call", NameKind.local), (Str.ofString "words", NameKind.local), (Str.ofString "thing", NameKind.local), (Str.ofString "caught", NameKind.local), (Str.ofString "SAXNotSupportedException", NameKind.globalImplicit), (Str.ofString "SAXNotRecognizedException", NameKind.globalImplicit), (Str.ofString "NotImplementedError", NameKind.globalImplicit)], isGenerator := false, isCoroutine := false }
section
variable {prog : Program} {w : World} {mg mb : Str → Option Value} {A : Around} {E : Value → Shared → Prop} {s : Shared} {h h₀ : Heap} {t : Nat} {outer : List Env}
theorem rd_inst {r d : Addr} {v : Nat → Value} (hr : h.get? r = some (inst 417 d)) (hD : RD h d v) : ∃ k1 k2 k3 k4 t1 t2 t3 t4 n, InstAt h r (inst 417 d) 417 (some (dictOf [⟨k1, .str "_cont_handler" t1, v 0⟩, ⟨k2, .str "_dtd_handler" t2, v 1⟩, ⟨k3, .str "_ent_handler" t3, v 2⟩, ⟨k4, .str "_err_handler" t4, v 3⟩] n)) := by
  obtain ⟨k1, k2, k3, k4, t1, t2, t3, t4, n, hD⟩ := hD
  exact ⟨k1, k2, k3, k4, t1, t2, t3, t4, n, hr, rfl, rfl, hD⟩
/-- x.name(..), x a reader -/
theorem ev_rmeth (B : Base0 w mg mb h₀) {m : Str → Option Value} {cn : Str} {cs : Scope} {L f r d g : Addr} {cd : Value} {x name : Str} {v : Nat → Value} {p1 p2 pos : Pos} {args : List Expr} {a₀ : Expr} {Q : Value → Shared → Prop} (F : Fr h₀ L h m)
    (hm : m x = some (.ref r)) (hr : h.get? r = some (inst 417 d)) (hD : RD h d v)
    (hg : plainGet (hdK.heap_1 w.params) 417 name = true) (hf : findIn (hdK.heap_1 w.params) (.ref 417) name = some (some (.ref g))) (ht : isFn (hdK.heap_1 w.params) (.ref g) = true) (hkp : keepIn (hdK.heap_1 w.params) (.ref g) = true)
    (hn : ∀ k1 k2 k3 k4 t1 t2 t3 t4 v0 v1 v2 v3, getL name [⟨k1, .str "_cont_handler" t1, v0⟩, ⟨k2, .str "_dtd_handler" t2, v1⟩, ⟨k3, .str "_ent_handler" t3, v2⟩, ⟨k4, .str "_err_handler" t4, v3⟩] = some none)
    (k : wpAny (model prog w) A (spliced (backTo pos (starEach (a₀ :: args) (envOf cn cs L f cd)))) (fun vs s₁ => (hdK.heap_1 w.params).In s₁.heap ∧ wpAny (model prog w) A (call (.ref g) (.ref r :: vs)) Q E s₁) E (St s h t))
    (he : starEach (a₀ :: args) (envOf cn cs L f cd) = (false, eval a₀ (envOf cn cs L f cd)) :: starEach args (envOf cn cs L f cd) := by rfl) (hplain : (backTo pos (starEach args (envOf cn cs L f cd))).any (·.1) = false := by rfl)
    {pl : Sem Bool}
    (hev : eval (.Call (.Attribute (.Name x p1) name p2) (a₀ :: args) [] pos) (envOf cn cs L f cd) = (do
      let ov ← eval (.Name x p1) (envOf cn cs L f cd)
      standAt p2.atName
      let (f', first) ← holding [ov] (getMethod ov name pl)
      callWith pos f' first (backTo pos (starEach (a₀ :: args) (envOf cn cs L f cd))) []) := by rfl)
    (hk : cs.kind = .function := by rfl) (hx : (envOf cn cs L f cd).kindOf x = some .local := by rfl) (hdb : (x == ("__debug__" : Str)) = false := by decide) :
    wpAny (model prog w) A (eval (.Call (.Attribute (.Name x p1) name p2) (a₀ :: args) [] pos) (envOf cn cs L f cd)) Q E (St s h t) := by
  obtain ⟨k1, k2, k3, k4, t1, t2, t3, t4, n, I⟩ := rd_inst hr hD
  refine MethodCall_ (ld F hm ?_ hk hx hdb) hev
  refine method_inst F B.X I hg hf ht (hn _ _ _ _ _ _ _ _ _ _ _ _) ?_
  exact callWith_K B.X hkp k he hplain
theorem Chg.pop {fs : List Addr} {L : Addr} {X : Addr → Prop} {h h' : Heap} (c : Chg (L :: fs) X h h') : Chg fs (fun b => b = L ∨ X b) h h' :=
  ⟨fun b o nb nx q => c.keep b o (fun z => (List.mem_cons.mp z).elim (fun z => nx (.inl z)) nb) (fun z => nx (.inr z)) q, fun l hl o q => c.fram l (.tail _ hl) o q⟩
theorem Chg.of_ex {fs S : List Addr} {h h' : Heap} (x : Ex S h h') (n : ∀ l ∈ fs, l ∉ S) : Chg fs (fun b => b ∈ S) h h' := ⟨fun b o _ nx q => x b o nx q, fun l hl o q => ⟨o.slots, x l o (n l hl) q⟩⟩
theorem Chg.none {fs : List Addr} {h h' : Heap} (c : Chg fs (fun _ => False) h h') {b : Addr} (q : h'.get? b = none) : h.get? b = none := by
  cases z : h.get? b with
  | none => rfl
  | some o =>
    by_cases hb : b ∈ fs
    · obtain ⟨sl, e⟩ := c.fram b hb o z; rw [q] at e; cases e
    · have e := c.keep b o hb id z; rw [q] at e; cases e
theorem newL {h : Heap} {vs : List Value} {M : Model} {Q : Value → Shared → Prop} (k : Q (.ref h.objs.size) (St s (h.push (lstO vs.toArray 0)) t)) (hsz : vs.length ≤ 100000) : wpAny M A (newList vs) Q E (St s h t) :=
  wpAny_newObj_type k (by show vs.toArray.size ≤ sizeLine; rw [List.size_toArray, sizeLine_eq]; omega)
theorem funF_not {l : List Env} (hl : h.FunFrames {} l) {b : Addr} (q : h.get? b = none) : b ∉ frs l := fun hm => by
  obtain ⟨_, o, ho, _⟩ := hl.mem hm
  rw [ho] at q; cases q
theorem fr_chg {fs : List Addr} {L : Addr} {X : Addr → Prop} {h h' : Heap} {m : Str → Option Value} (F : Fr h₀ L h m) (c : Chg (L :: fs) X h h') (hX : ∀ b, X b → h₀.get? b = none) (hb : ∀ l ∈ fs, h₀.get? l = none) : Fr h₀ L h' m := by
  obtain ⟨o, es, ep, ho, hd, r⟩ := F.ns
  obtain ⟨sl, e⟩ := c.fram L (.head _) o ho
  refine ⟨⟨_, es, ep, e, hd, r⟩, fun b o q => c.keep b o (fun z => ?_) (fun z => ?_) (F.keep b o q), F.above⟩
  · rcases List.mem_cons.mp z with z | z
    · rw [z, fr_low F] at q; cases q
    · rw [hb b z] at q; cases q
  · rw [hX b z] at q; cases q
/-- the words that are due -/
def due (c : Int) (x : Str) : Str := if c = 0 then "Locale support not implemented" else if c = 1 ∨ c = 2 then "Feature '" ++ x ++ "' not recognized" else if c = 3 ∨ c = 4 then "Property '" ++ x ++ "' not recognized" else "This method must be implemented!"
def dueK (c : Int) : Int := if c = 0 then 0 else if c < 5 then 1 else 2
/-- a clause that returns [i, caught], all told -/
theorem clause_ret {e : Addr} {C C' : Value} {T : Addr} {tE : Expr} {msg : Str} {i : Int} {kc : Nat} {p1 p2 p3 p4 pos : Pos} {hs : List ExceptHandler} {Q : Flow → Shared → Prop} {cn : Str} {cs : Scope} {L f : Addr} {cd : Value} {m : Str → Option Value} {h₁ : Heap}
    (B : Base0 w mg mb h₀) (k₁ : h.StaysIn h₁) (F₁ : Fr h₀ L h₁ m) (hL : h.get? L = none) (hl : h.FunFrames {} outer) {h₂ h₃ : Heap} {T' : Addr} {dxo : Option Addr} {tup : Value} {y : Addr} {o : Obj}
    (N : AuxO C dxo tup y msg o ∧ h₂.get? y = some o ∧ h₁.get? e = none ∧ h₁.get? T = none ∧ h₁.get? y = none ∧ y ≠ e ∧ y ≠ T) (R₃ : Rz h₃ e C dxo tup xr T' .none) (c₂ : Chg (L :: frs outer) (fun _ => False) h₁ h₂) (c₃ : Chg (L :: frs outer) (fun b => b = e ∨ b = T) h₂ h₃) (hT' : h₂.get? T' = none) (F₃ : Fr h₀ L h₃ m)
    (cl : CL w C C' true) (hev : ∀ (A' : Around) (Q' : Value → Shared → Prop) (N : Value → Shared → Prop), Q' C' (St s h₃ t) → wpAny (model prog w) A' (eval tE (envOf cn cs L f cd)) Q' N (St s h₃ t))
    (k : ∀ h' t' a n u T, NewErr h h' msg e C T → Chg (frs outer) (fun _ => False) h h' → h.get? a = none → h'.get? a = some (lstO #[.int i u, .ref e] n) → Q (.ret (.ref a)) (St s h' t'))
    (hk : cs.kind = .function := by rfl) (hlo : (envOf cn cs L f cd).kindOf "caught" = some .local := by rfl) :
    wpAny (model prog w) A (handleBy (.ref e) (envOf cn cs L f cd) (.ExceptHandler (some tE) (some "caught") [.Return (some (.List [.Constant (.int i) kc p1, .Name "caught" p2] p3)) p4] pos :: hs)) Q E (St s h₃ t) := by
  obtain ⟨hA, hy, he0, hT0, hy0, hye, hyT⟩ := N
  have hT1 := c₂.none hT'
  have X : (hdK.heap_1 w.params).In h₃ := (Bs.of F₃).in B
  have LL : ∀ {b}, h₁.get? b = none → b ≠ L := fun q => fr_ne F₁ q
  refine clause_as X F₃ R₃ (LL hT1) (LL he0) (none_of F₁.keep hT1) cl hev (fun h₄ t₄ F₄ R₄ x₄ n₄ => ?_) hk hlo
  refine wpAny_execs_cons (wpAny_Return_some (List_ (spliced_more (wpAny_Constant_int (spliced_more (ld F₄ (v := .ref e) (if_pos rfl) (spliced_none (newL ?_ (by simp))) hk hlo))))))
  refine ⟨_, _, _, _, rfl, rfl, F₄.keeps (stays_push _ _), fun h₅ t₅ m₅ F₅ x₅ => ?_⟩
  have s4 := stays_push h₄ (lstO #[.int i t₄, .ref e] 0)
  have ha4 : h₄.get? h₄.objs.size = none := size_none h₄
  have fo : ∀ l ∈ frs outer, l ≠ L ∧ l ≠ T' := fun l hm => by
    obtain ⟨_, o, ho, _⟩ := hl.mem hm
    exact ⟨ne_of ho hL, ne_of ho (none_of k₁ hT1)⟩
  -- the whole way from h
  have cw : Chg (frs outer) (fun b => b = L ∨ b = e ∨ b = T ∨ b = T') h₁ h₅ := by
    refine ((c₂.pop.mono (X' := fun b => b = L ∨ b = e ∨ b = T ∨ b = T') fun b _ _ z => z.elim .inl False.elim).trans (c₃.pop) fun b _ _ z => z.elim .inl fun z => z.elim (fun z => .inr (.inl z)) fun z => .inr (.inr (.inl z))).trans
      (Chg.of_ex x₄ fun l hm => by simpa using ⟨(fo l hm).2, (fo l hm).1⟩) (fun b _ _ z => ?_) |>.trans (Chg.stays_left s4 (Chg.of_ex x₅ fun l hm => by simpa using (fo l hm).1)) fun b _ _ z => .inl (by simpa using z)
    rcases List.mem_cons.mp z with z | z
    · exact .inr (.inr (.inr z))
    · exact .inl (by simpa using z)
  have cw' : Chg (frs outer) (fun _ => False) h h₅ := (Chg.stays_left k₁ cw).mono fun b o q z => by
    rcases z with z | z | z | z
    · rw [z, hL] at q; cases q
    · rw [z, none_of k₁ he0] at q; cases q
    · rw [z, none_of k₁ hT0] at q; cases q
    · rw [z, none_of k₁ hT1] at q; cases q
  have LA : h₄.objs.size ≠ L := fr_ne F₄ ha4
  refine k h₅ t₅ h₄.objs.size 0 t₄ T' ⟨dxo, tup, y, o, ⟨?_, R₄.ne, ?_⟩, hA, ?_, none_of k₁ he0, none_of k₁ hT1, none_of k₁ hy0, hye, ?_⟩ cw' ?_ ?_
  · exact x₅ _ _ (by simpa using LL he0) (s4 _ _ R₄.exc)
  · obtain ⟨ts, q1, q2⟩ := R₄.tb
    exact ⟨ts, x₅ _ _ (by simpa using LL hT1) (s4 _ _ q1), q2⟩
  · refine x₅ _ _ (by simpa using LL hy0) (s4 _ _ (x₄ _ _ ?_ (c₃.keep _ _ ?_ (fun z => z.elim hye hyT) hy)))
    · simpa using ⟨ne_of hy hT', LL hy0⟩
    · intro z
      rcases List.mem_cons.mp z with z | z
      · exact LL hy0 z
      · exact funF_not hl (none_of k₁ hy0) z
  · exact ne_of hy hT'
  · cases q : h.get? h₄.objs.size with
    | none => rfl
    | some o' =>
      have q1 := k₁ _ _ q
      by_cases hb : h₄.objs.size ∈ frs outer
      · obtain ⟨sl, e1⟩ := c₂.fram _ (.tail _ hb) _ q1
        obtain ⟨sl', e2⟩ := c₃.fram _ (.tail _ hb) _ e1
        have e3 := x₄ _ _ (by simpa using ⟨(fo _ hb).2, (fo _ hb).1⟩) e2
        rw [ha4] at e3; cases e3
      · have nL : h₄.objs.size ∉ L :: frs outer := fun z => (List.mem_cons.mp z).elim LA hb
        have e1 := c₂.keep _ _ nL id q1
        have e2 := c₃.keep _ _ nL (fun z => z.elim (fun z => by rw [z, he0] at q1; cases q1) fun z => by rw [z, hT0] at q1; cases q1) e1
        have e3 := x₄ _ _ (by simpa using ⟨fun z => (by rw [z, hT1] at q1; cases q1), LA⟩) e2
        rw [ha4] at e3; cases e3
  · exact x₅ _ _ (by simpa using LA) (Heap.get?_push_size _ rfl)
end
end Mine
end
section
open PySem PySem.W PySem.W.X PyProof.Rows PySem.Calls Builtin Builtin.ObjectAttr
namespace Mine
theorem fill8 : (fun (_ : OpenLaw) (_ : Params → Frag) => True) PySem.Challenge.rw_kl0193_01 hdK.heap_1 := by
  k_fill
  trivial
section
variable {prog : Program} {w : World} {mg mb : Str → Option Value} {A : Around} {E : Value → Shared → Prop} {s : Shared} {h h₀ : Heap} {t : Nat} {outer : List Env}
/-- the name of a class of the text's -/
theorem nameOf {C : Addr} {x : Value} {d : Option Addr} {o : ClassData} {sl : Array (Option Value)} {n : String} (h1 : (hdK.heap_1 w.params).lookup C = some ⟨x, d, .cls o, sl⟩) (h2 : o.name.cps.foldl (fun k c => k + (Str.utf8Of c).length) 0 ≤ 100) (h3 : o.name.toString = n)
    (M : Model) (h : Heap) (X : (hdK.heap_1 w.params).In h) : Looks M h (typeNameCut 100 (.ref C)) n := by
  intro A Q E s k q
  unfold typeNameCut classData
  refine wpAny_bind (wpAny_bind (wpAny_load (k _ _ (X _ _ h1)) (wpAny_pure ?_)))
  dsimp only
  rw [if_pos h2, h3]
  exact wpAny_pure q
theorem noAttr {a : Addr} {ox : Obj} {C : Addr} {n : String} {name : Str} {α : Type} {Q : α → Shared → Prop} (hh : A.handled = none) (ha : h.get? a = some ox) (hc : ox.cls = .ref C) (hn : ∀ M : Model, Looks M h (typeNameCut 100 (.ref C)) n) (hl : n.length ≤ 60) (hsz : name.length ≤ 1000)
    (k : ∀ h' tk e, Heap.NewAttrErr h h' e (.ref a) name → E (.ref e) (St s h' tk)) : wpAny (model prog w) A (noSuchAttribute (.ref a) name : Sem α) Q E (St s h t) := by
  unfold noSuchAttribute typeNameOfCut shownTypeOf
  refine wpAny_bind (wpAny_bind (wpAny_bind (wpAny_bind (wpAny_loadPart ha (wpAny_pure ?_)))))
  rw [hc, if_neg (by simp)]
  refine wpAny_pure ((hn _).here ?_)
  refine wpAny_raiseAttrError hh (fun h' tk e x => k h' tk e x) ?_
  refine attrMsg_fits ?_ (by rw [sizeLine_eq]; omega)
  simp only [String.length_append]
  have e1 : (toString "'").length = 1 := by decide
  have e2 : (toString "' object has no attribute '").length = 27 := by decide
  have e3 : (toString n).length = n.length := rfl
  omega
theorem miss_inst (B : Base0 w mg mb h₀) (b : Bs h₀ h) (hh : A.handled = none) {a C : Addr} {ox : Obj} {od : Option Obj} {n : String} {name : Str} {pl : Sem Bool} {Q : Value × List Value → Shared → Prop} (I : InstAt h a ox C od)
    (hga : findIn (hdK.heap_1 w.params) (.ref C) "__getattribute__" = some (some (.builtin "object.__getattribute__"))) (hk : findIn (hdK.heap_1 w.params) (.ref C) "__getattr__" = some none) (hm : findIn (hdK.heap_1 w.params) (.ref C) name = some none)
    (hf : findObj (hdK.heap_1 w.params) C od name = some .missing) (hn : ∀ (M : Model) (h : Heap), (hdK.heap_1 w.params).In h → Looks M h (typeNameCut 100 (.ref C)) n) (hl : n.length ≤ 60) (hsz : name.length ≤ 1000)
    (k : ∀ h' tk e, Heap.NewAttrErr h h' e (.ref a) name → E (.ref e) (St s h' tk)) : wpAny (model prog w) A (getMethod (.ref a) name pl) Q E (St s h t) := by
  have X := b.in B
  have hcan := PySem.F.canon_object_ga
  unfold getMethod specialOf
  refine wpAny_bind (wpAny_bind (I.type.here ((looks_findIn X hga).here ?_)))
  dsimp only
  rw [hcan, if_neg (by decide)]
  refine wpAny_bind (wpAny_bind (I.type.here ((looks_findIn X hk).here ?_)))
  refine wpAny_bind (wpAny_bind (I.type.here ((looks_findIn X hm).here ?_)))
  refine wpAny_bind (get_open X I hga ?_)
  have L0 := I.type (M := model prog w)
  have L1 := looks_find (M := model prog w) X I hf
  have L2 := looks_findIn (M := model prog w) X hk
  refine wpAny_bind (wpAny_pure (wpAny_bind (L0.at (wpAny_bind (L1.at (wpAny_bind (L2.at ?_)))))))
  show wpAny _ _ (noSuchAttribute _ _) _ _ _
  refine noAttr (s := s) (h := h) hh I.at_ I.cls (fun M => hn M h X) hl hsz fun h' tk e x => ?_
  unfold noteIf
  rw [if_pos rfl]
  obtain ⟨t', u', he⟩ := x.there
  have f1 := sub_AttributeError
  unfold noteAttr lacksNameAndObj isInstance
  refine wpAny_bind (wpAny_bind (wpAny_bind (wpAny_bind (wpAny_loadPart he (wpAny_pure ?_)))))
  rw [f1]
  refine wpAny_pure ?_
  rw [if_neg (by decide)]
  refine wpAny_bind (wpAny_load he ?_)
  dsimp only
  rw [if_pos (by rfl)]
  refine wpAny_pure ?_
  rw [if_neg (by decide)]
  exact wpAny_pure (k h' tk e x)
end
end Mine
end
section
open PySem PySem.W PySem.W.X PyProof.Rows PySem.Calls Builtin Builtin.ObjectAttr
namespace Mine
theorem fill9 : (fun (_ : OpenLaw) (_ : Params → Frag) => True) PySem.Challenge.rw_kl0193_01 hdK.heap_1 := by
  k_fill
  trivial
section
variable {prog : Program} {w : World} {mg mb : Str → Option Value} {A : Around} {E : Value → Shared → Prop} {s : Shared} {h h₀ : Heap} {t : Nat} {outer : List Env}
theorem miss_call {o T : Value} {G : String} {name : Str} {pl : Sem Bool} {Q : Value × List Value → Shared → Prop} (hh : A.handled = none)
    (hT : ∀ M : Model, Looks M h (typeOf o) T) (hga : ∀ M : Model, Looks M h (typeLookup T "__getattribute__") (some (.builtin G)))
    (hcan : (Manifest.canonical G != "object.__getattribute__") = false) (hk : ∀ M : Model, Looks M h (typeLookup T "__getattr__") none) (hm : ∀ M : Model, Looks M h (typeLookup T name) none)
    (hkb : onTheHeap T = true ∨ typeLookup T "__getattr__" = pure none) (hb : bindSpecial (.builtin G) o = pure (.builtin G, [o])) (hne : (onTheHeap T && Value.builtin G == .builtin "object.__getattribute__") = false)
    (hcall : ∀ (A' : Around) (Q' E' : Value → Shared → Prop) t', A'.handled = none → (∀ h' tk e, Heap.NewAttrErr h h' e o name → E' (.ref e) (St s h' tk)) → wpAny (model prog w) A' (call (.builtin G) [o, .str name t]) Q' E' (St s h t'))
    (k : ∀ h' tk e, Heap.NewAttrErr h h' e o name → E (.ref e) (St s h' tk)) : wpAny (model prog w) A (getMethod o name pl) Q E (St s h t) := by
  have T0 := hT (model prog w)
  have T1 := hga (model prog w)
  have T2 := hk (model prog w)
  have T3 := hm (model prog w)
  unfold getMethod specialOf
  refine wpAny_bind (wpAny_bind (T0.here (T1.here ?_)))
  dsimp only
  rw [hcan, if_neg (by decide)]
  refine wpAny_bind (wpAny_bind (T0.here (T2.here ?_)))
  refine wpAny_bind (wpAny_bind (T0.here (T3.here ?_)))
  unfold getAttr getAttrBy
  refine wpAny_bind (wpAny_bind (wpAny_mkText (wpAny_holding (wpAny_bind (T0.at (wpAny_bind (T1.at ?_)))))))
  dsimp only
  rw [if_neg (by rw [hne]; decide)]
  unfold getAttrByItsOwn
  have f1 := sub_AttributeError
  have fin : ∀ (A' : Around) (before : Option Value) (Q' : Value → Shared → Prop) h' tk e, (onTheHeap T = true → before = none) → Heap.NewAttrErr h h' e o name → wpAny (model prog w) A' (getattributeRaised o (.str name t) T (.ref e) before true false) Q' E (St s h' tk) := by
    intro A' before Q' h' tk e hbf x
    obtain ⟨t', u', he⟩ := x.there
    have hbk : hookBehind T before = pure none := by
      unfold hookBehind
      cases q : onTheHeap T with
      | true => rw [if_pos rfl, hbf q]
      | false =>
        rw [if_neg (by decide)]
        rcases hkb with z | z
        · rw [q] at z; cases z
        · exact z
    unfold getattributeRaised isInstance
    refine wpAny_bind (wpAny_bind (wpAny_bind (wpAny_loadPart he (wpAny_pure ?_))))
    rw [f1]
    refine wpAny_pure ?_
    rw [if_pos rfl, hbk]
    refine wpAny_bind (wpAny_pure ?_)
    unfold hookOrError attributeErrorLeaves
    rw [if_neg (by decide)]
    dsimp only
    refine wpAny_bind ?_
    unfold noteAttr lacksNameAndObj isInstance
    refine wpAny_bind (wpAny_bind (wpAny_bind (wpAny_bind (wpAny_loadPart he (wpAny_pure ?_)))))
    rw [f1]
    refine wpAny_pure ?_
    rw [if_neg (by decide)]
    refine wpAny_bind (wpAny_load he ?_)
    dsimp only
    rw [if_pos (by rfl)]
    refine wpAny_pure ?_
    rw [if_neg (by decide)]
    exact wpAny_pure (wpAny_throw (k h' tk e x))
  have mid : ∀ before, (onTheHeap T = true → before = none) → wpAny (model prog w) A ((holding before.toList (callGetattribute o (.str name t) (.builtin G) false)).attempt) (fun r s' => ∃ h' tk e, r = .error (.ref e) ∧ s' = St s h' tk ∧ Heap.NewAttrErr h h' e o name) (fun _ _ => False) (St s h (t + 1)) := by
    intro before hbf
    refine wpAny_attempt ?_
    refine wpAny_holding ?_
    unfold callGetattribute boundAndCalled
    rw [if_neg (by rw [Bool.false_and]; decide), hb]
    refine wpAny_bind (wpAny_pure ?_)
    exact hcall _ _ _ _ hh fun h' tk e x => ⟨h', tk, e, rfl, rfl, x⟩
  have mid' : ∀ before, (onTheHeap T = true → before = none) → wpAny (model prog w) A (do
      match ← (holding before.toList (callGetattribute o (.str name t) (.builtin G) false)).attempt with
      | .ok v => handedOut v
      | .error e => getattributeRaised o (.str name t) T e before true false) (fun _ _ => False) E (St s h (t + 1)) := by
    intro before hbf
    refine wpAny_bind (wpAny_mono (mid before hbf) (fun r s' q => ?_) fun _ _ x => x.elim)
    obtain ⟨h', tk, e, rfl, rfl, x⟩ := q
    exact fin A before _ h' tk e hbf x
  refine wpAny_bind ?_
  unfold hookBefore
  have last : ∀ before, (onTheHeap T = true → before = none) → wpAny (model prog w) A (do
      match ← (holding before.toList (callGetattribute o (.str name t) (.builtin G) false)).attempt with
      | .ok v => handedOut v
      | .error e => getattributeRaised o (.str name t) T e before true false) (fun v s' => wpAny (model prog w) A (pure (v, ([] : List Value))) Q E s') E (St s h (t + 1)) :=
    fun before hbf => wpAny_mono (mid' before hbf) (fun _ _ x => x.elim) fun _ _ x => x
  cases q : onTheHeap T with
  | true =>
    rw [if_pos rfl]
    exact T2.at (last none fun _ => rfl)
  | false =>
    rw [if_neg (by decide)]
    exact wpAny_pure (last none fun _ => rfl)
theorem ck_bexc : builtinKind "BaseException.__getattribute__" = some .slot := by decide +kernel
theorem sp_bexc : splitId "BaseException.__getattribute__" = some ("BaseException", "__getattribute__") := by decide +kernel
theorem hit_att {u : Nat} {e : Addr} {C : Addr} {ox : Obj} {od : Option Obj} {name : Str} {nn : String} {Q E' : Value → Shared → Prop} (X : (hdK.heap_1 w.params).In h) (hh : A.handled = none) (I : InstAt h e ox C od) (ec : EC w (.ref C))
    (hf : findObj (hdK.heap_1 w.params) C od name = some .missing) (hn : ∀ (M : Model) (h : Heap), (hdK.heap_1 w.params).In h → Looks M h (typeNameCut 100 (.ref C)) nn) (hl : nn.length ≤ 60) (hsz : name.length ≤ 1000)
    (k : ∀ h' tk e', Heap.NewAttrErr h h' e' (.ref e) name → E' (.ref e') (St s h' tk)) : wpAny (model prog w) A (call (.builtin "BaseException.__getattribute__") [.ref e, .str name u]) Q E' (St s h t) := by
  have li : Looks (model prog w) h (isInstance (.ref e) (.type "BaseException")) true := by
    unfold isInstance
    exact (I.type).andThen (ec.base _ _ X)
  have L3 : wpAny (model prog w) A.in1 (Builtin.«object.__getattribute__» ⟨[.ref e, .str name u], []⟩) (fun _ _ => False) E' (St s h t) := by
    have L0 := I.type (M := model prog w)
    have L1 := looks_find (M := model prog w) X I hf
    unfold Builtin.«object.__getattribute__»
    refine wpAny_bind (wpAny_pure ?_)
    dsimp only
    refine wpAny_bind (wpAny_pure ?_)
    refine wpAny_bind (L0.at (wpAny_bind (L1.at ?_)))
    dsimp only
    rw [if_neg (by simp), if_neg (by simp)]
    exact noAttr (s := s) (h := h) hh I.at_ I.cls (fun M => hn M h X) hl hsz k
  have pl : plainId "BaseException.__getattribute__" = true := F.excAttr_ValueError.ga.plain
  have ar : argsOk "BaseException.__getattribute__" ⟨[.ref e, .str name u], []⟩ := F.args_bexc_ga _ _
  generalize hG : "BaseException.__getattribute__" = G at *
  have en : entryFor table G = some Builtin.«object.__getattribute__» := by rw [← hG]; exact F.entry_bexc_ga
  have ck : builtinKind G = some .slot := by rw [← hG]; exact ck_bexc
  have sp : splitId G = some ("BaseException", "__getattribute__") := by rw [← hG]; exact sp_bexc
  refine wpAny_call (codeAny_call_builtin pl en ?_)
  refine check_slot ck sp li ar ?_
  exact wpAny_mono L3 (fun _ _ x => x.elim) (fun _ _ x => x)
theorem miss_sax {e C : Addr} {ox : Obj} {od : Option Obj} {nn : String} {name : Str} {pl : Sem Bool} {Q : Value × List Value → Shared → Prop} (X : (hdK.heap_1 w.params).In h) (hh : A.handled = none) (I : InstAt h e ox C od) (ec : EC w (.ref C))
    (hga : findIn (hdK.heap_1 w.params) (.ref C) "__getattribute__" = some (some (.builtin "BaseException.__getattribute__"))) (hk : findIn (hdK.heap_1 w.params) (.ref C) "__getattr__" = some none) (hm : findIn (hdK.heap_1 w.params) (.ref C) name = some none)
    (hf : findObj (hdK.heap_1 w.params) C od name = some .missing) (hn : ∀ (M : Model) (h : Heap), (hdK.heap_1 w.params).In h → Looks M h (typeNameCut 100 (.ref C)) nn) (hl : nn.length ≤ 60) (hsz : name.length ≤ 1000)
    (k : ∀ h' tk e', Heap.NewAttrErr h h' e' (.ref e) name → E (.ref e') (St s h' tk)) : wpAny (model prog w) A (getMethod (.ref e) name pl) Q E (St s h t) :=
  miss_call hh (fun M => I.type) (fun M => looks_findIn X hga) (by decide +kernel) (fun M => looks_findIn X hk) (fun M => looks_findIn X hm) (.inl rfl) (F.excAttr_ValueError.ga.bind _) (by show (true && _) = false; rw [Bool.true_and]; decide +kernel)
    (fun A' Q' E' t' hh' k' => hit_att X hh' I ec hf hn hl hsz k') k
theorem miss_none {name : Str} {pl : Sem Bool} {Q : Value × List Value → Shared → Prop} (hh : A.handled = none) (hm : typeLookup (.type "NoneType") name = pure none) (hsz : name.length + 100 ≤ sizeLine)
    (k : ∀ h' tk e', Heap.NewAttrErr h h' e' .none name → E (.ref e') (St s h' tk)) : wpAny (model prog w) A (getMethod .none name pl) Q E (St s h t) :=
  miss_call hh (fun M => Looks.of_pure (by kernel_rfl)) (fun M => Looks.of_pure F.slot_NoneType_getattribute.lookup) (by decide +kernel) (fun M => Looks.of_pure am_none_getattr_none) (fun M => Looks.of_pure hm) (.inr am_none_getattr_none) (F.slot_NoneType_getattribute.bind _) (by decide +kernel)
    (fun A' Q' E' t' hh' k' => call_meets F.slot_NoneType_getattribute rfl F.entry_object_getattribute (F.args_object_getattribute_2 _ _) (meets_getattribute_miss_none name _ hm hsz) ⟨hh', fun h' tk' e hx => k' h' tk' e hx⟩) k
theorem looks_cls {M : Model} {a : Addr} {o : Obj} {c : Value} (ha : h.get? a = some o) (hc : o.cls = c) : Looks M h (typeOf (.ref a)) c := by
  intro A Q E s k q
  subst hc
  exact wpAny_bind (wpAny_loadPart (k _ _ ha) (wpAny_pure q))
theorem miss_list {a : Addr} {xs : Array Value} {n : Nat} {name : Str} {pl : Sem Bool} {Q : Value × List Value → Shared → Prop} (hh : A.handled = none) (ha : h.get? a = some (lstO xs n)) (hm : typeLookup (.type "list") name = pure none) (hsz : name.length + 100 ≤ sizeLine)
    (hname : (["__module__", "__name__", "__qualname__", "__doc__", "__annotations__"] : List Str).contains name = false)
    (k : ∀ h' tk e', Heap.NewAttrErr h h' e' (.ref a) name → E (.ref e') (St s h' tk)) : wpAny (model prog w) A (getMethod (.ref a) name pl) Q E (St s h t) :=
  miss_call hh (fun M => looks_cls ha rfl) (fun M => Looks.of_pure F.slot_list_getattribute.lookup) (by decide +kernel) (fun M => Looks.of_pure am_list_getattr_none) (fun M => Looks.of_pure hm) (.inr am_list_getattr_none) (F.slot_list_getattribute.bind _) rfl
    (fun A' Q' E' t' hh' k' => call_meets F.slot_list_getattribute ⟨_, ha, rfl⟩ am_entry_list_getattribute (F.args_list_getattribute_2 _ _) (meets_getattribute_miss_list a xs n #[] name _ hm hname hsz) ⟨ha, hh', fun h' tk' e hx => k' h' tk' e hx⟩) k
theorem nie_ga : Slot "NotImplementedError" "__getattribute__" "BaseException.__getattribute__" :=
  .of (owner := "BaseException") (n := "__getattribute__") (by rw [typeLookup_type, builtinLookup_eq_fast]; kernel_rfl) (by decide +kernel) (by decide +kernel) (by decide +kernel)
    (by first | exact .inl (by decide +kernel) | exact .inr (by decide +kernel)) (by rw [isSubtype_type]; kernel_rfl)
theorem nie_ha : typeLookup (.type "NotImplementedError") "__getattr__" = pure none := am_miss_of_fast (by decide +kernel)
theorem meets_nie (a : Addr) (d : List Value) (tb tup : Value) (name : Str) (u : Tok) (hmiss : typeLookup (.type "NotImplementedError") name = pure none) (hname : (["__module__", "__name__", "__qualname__", "__doc__", "__annotations__"] : List Str).contains name = false) (hsz : name.length + 100 ≤ sizeLine) :
    Meets (Builtin.«object.__getattribute__» ⟨[.ref a, .str name u], []⟩) (fun A R s => s.heap.get? a = some (exG (.type "NotImplementedError") none tup tb d) ∧ raisesAttr (.ref a) name A R s) :=
  Meets.of_wp fun prog w A R s hs => by
    obtain ⟨hp, g, dr, tk, os⟩ := s
    obtain ⟨hx, hs⟩ := hs
    have hT : (⟨hp, g, dr, tk, os⟩ : Shared).TypeIs (.ref a) "NotImplementedError" := ⟨_, hx, rfl⟩
    unfold Builtin.«object.__getattribute__»
    repeat (any_goals (first | assumption | wp_step))
    simp only [hname, Bool.false_eq_true, if_false]
    repeat (any_goals (first | assumption | wp_step))
    exact wpAny_raiseAttrError hs.1 hs.2 (attrMsg_fits (by decide +kernel) hsz)
theorem miss_nie {a : Addr} {tup tb : Value} {d : List Value} {name : Str} {pl : Sem Bool} {Q : Value × List Value → Shared → Prop} (hh : A.handled = none) (ha : h.get? a = some (exG (.type "NotImplementedError") none tup tb d)) (hm : typeLookup (.type "NotImplementedError") name = pure none) (hsz : name.length + 100 ≤ sizeLine)
    (hname : (["__module__", "__name__", "__qualname__", "__doc__", "__annotations__"] : List Str).contains name = false)
    (k : ∀ h' tk e', Heap.NewAttrErr h h' e' (.ref a) name → E (.ref e') (St s h' tk)) : wpAny (model prog w) A (getMethod (.ref a) name pl) Q E (St s h t) :=
  miss_call hh (fun M => looks_cls ha rfl) (fun M => Looks.of_pure nie_ga.lookup) (by decide +kernel) (fun M => Looks.of_pure nie_ha) (fun M => Looks.of_pure hm) (.inr nie_ha) (nie_ga.bind _) rfl
    (fun A' Q' E' t' hh' k' => call_meets nie_ga ⟨_, ha, rfl⟩ F.entry_bexc_ga (F.args_bexc_ga _ _) (meets_nie a d tb tup name _ hm hname hsz) ⟨ha, hh', fun h' tk' e hx => k' h' tk' e hx⟩) k
end
end Mine
end
section
open PySem PySem.W PySem.W.X PyProof.Rows PySem.Calls Builtin Builtin.ObjectAttr
namespace Mine
theorem fill10 : (fun (_ : OpenLaw) (_ : Params → Frag) => True) PySem.Challenge.rw_kl0193_01 hdK.heap_1 := by
  k_fill
  trivial
/-- a thing of a kind: a handler new, None or an empty list, an error that a reader gave -/
def Thing (h : Heap) (k : Nat) (v : Value) : Prop := match k with
  | 0 => ∃ a d kk tt n, v = .ref a ∧ h.get? a = some (inst 164 d) ∧ h.get? d = some (dct #[⟨kk, .str "_locator" tt, .none⟩] n)
  | 1 => ∃ a d, v = .ref a ∧ h.get? a = some (inst 192 d) ∧ h.get? d = some (dct #[] 0)
  | 2 => ∃ a d, v = .ref a ∧ h.get? a = some (inst 213 d) ∧ h.get? d = some (dct #[] 0)
  | 3 => ∃ a d, v = .ref a ∧ h.get? a = some (inst 52 d) ∧ h.get? d = some (dct #[] 0)
  | 4 => v = .none ∨ ∃ a n, v = .ref a ∧ h.get? a = some (lstO #[] n)
  | _ => ∃ e C dxo tup y o x T, v = .ref e ∧ Rz h e C dxo tup xr T .none ∧ AuxO C dxo tup y x o ∧ h.get? y = some o
theorem findObj_miss {K : Frag} {C : Addr} {od : Obj} {name : Str} (hh : hasDictIn K C = true) (ha : findIn K (.ref C) name = some none) (hc : copiedNames.contains name = false) (hl : lookIn name od = some none) :
    findObj K C (some od) name = some .missing := by
  obtain ⟨cd, h1, h2⟩ := any_some hh
  unfold findObj
  rw [h1, ha]
  show (PySem.W.ownOf cd (some od) name).bind _ = _
  unfold PySem.W.ownOf
  rw [if_pos h2]
  show (lookIn name od).bind _ = _
  rw [hl]
  show (if copiedNames.contains name && _ then _ else _) = _
  rw [hc, Bool.false_and]
  rfl
section
variable {w : World}
/-- what a miss asks of a class -/
structure MisC (w : World) (C : Addr) (G : String) (n : String) : Prop where
  ga : findIn (hdK.heap_1 w.params) (.ref C) "__getattribute__" = some (some (.builtin G))
  gk : findIn (hdK.heap_1 w.params) (.ref C) "__getattr__" = some none
  hs : hasDictIn (hdK.heap_1 w.params) C = true
  nm : ∀ (M : Model) (h : Heap), (hdK.heap_1 w.params).In h → Looks M h (typeNameCut 100 (.ref C)) n
/-- a name that no error, list or None has -/
structure MisO (w : World) (name : Str) : Prop where
  r276 : findIn (hdK.heap_1 w.params) (.ref 276) name = some none
  s288 : findIn (hdK.heap_1 w.params) (.ref 288) name = some none
  lst : typeLookup (.type "list") name = pure none
  non : typeLookup (.type "NoneType") name = pure none
  nie : typeLookup (.type "NotImplementedError") name = pure none
  len : name.length ≤ 20
  odd : (["__module__", "__name__", "__qualname__", "__doc__", "__annotations__"] : List Str).contains name = false
  cop : copiedNames.contains name = false
  emp : lookIn name (dct #[] 0) = some none
  loc : ∀ kk tt n, lookIn name (dct #[⟨kk, .str "_locator" tt, .none⟩] n) = some none
  msg : ∀ k1 k2 t1 t2 tx x n, lookIn name (dct #[⟨k1, .str "_msg" t1, .str x tx⟩, ⟨k2, .str "_exception" t2, .none⟩] n) = some none
theorem mc164 : MisC w 164 "object.__getattribute__" "ContentHandler" := ⟨by k_is, by k_is, by k_is, fun M h X => nameOf (n := "ContentHandler") (by k_is) (by decide +kernel) (by decide +kernel) M h X⟩
theorem mc192 : MisC w 192 "object.__getattribute__" "DTDHandler" := ⟨by k_is, by k_is, by k_is, fun M h X => nameOf (n := "DTDHandler") (by k_is) (by decide +kernel) (by decide +kernel) M h X⟩
theorem mc213 : MisC w 213 "object.__getattribute__" "EntityResolver" := ⟨by k_is, by k_is, by k_is, fun M h X => nameOf (n := "EntityResolver") (by k_is) (by decide +kernel) (by decide +kernel) M h X⟩
theorem mc52 : MisC w 52 "object.__getattribute__" "ErrorHandler" := ⟨by k_is, by k_is, by k_is, fun M h X => nameOf (n := "ErrorHandler") (by k_is) (by decide +kernel) (by decide +kernel) M h X⟩
theorem mc276 : MisC w 276 "BaseException.__getattribute__" "SAXNotRecognizedException" := ⟨by k_is, by k_is, by k_is, fun M h X => nameOf (n := "SAXNotRecognizedException") (by k_is) (by decide +kernel) (by decide +kernel) M h X⟩
theorem mc288 : MisC w 288 "BaseException.__getattribute__" "SAXNotSupportedException" := ⟨by k_is, by k_is, by k_is, fun M h X => nameOf (n := "SAXNotSupportedException") (by k_is) (by decide +kernel) (by decide +kernel) M h X⟩
theorem mn164_fatalError : findIn (hdK.heap_1 w.params) (.ref 164) "fatalError" = some none := by k_is
theorem mn192_fatalError : findIn (hdK.heap_1 w.params) (.ref 192) "fatalError" = some none := by k_is
theorem mn213_fatalError : findIn (hdK.heap_1 w.params) (.ref 213) "fatalError" = some none := by k_is
theorem mo_fatalError : MisO w "fatalError" := ⟨by k_is, by k_is, am_miss_of_fast (by decide +kernel), am_miss_of_fast (by decide +kernel), am_miss_of_fast (by decide +kernel), by decide, by decide +kernel, by decide +kernel, by rfl, by intros; rfl, by intros; rfl⟩
theorem mn164_error : findIn (hdK.heap_1 w.params) (.ref 164) "error" = some none := by k_is
theorem mn192_error : findIn (hdK.heap_1 w.params) (.ref 192) "error" = some none := by k_is
theorem mn213_error : findIn (hdK.heap_1 w.params) (.ref 213) "error" = some none := by k_is
theorem mo_error : MisO w "error" := ⟨by k_is, by k_is, am_miss_of_fast (by decide +kernel), am_miss_of_fast (by decide +kernel), am_miss_of_fast (by decide +kernel), by decide, by decide +kernel, by decide +kernel, by rfl, by intros; rfl, by intros; rfl⟩
theorem mn192_startElement : findIn (hdK.heap_1 w.params) (.ref 192) "startElement" = some none := by k_is
theorem mn213_startElement : findIn (hdK.heap_1 w.params) (.ref 213) "startElement" = some none := by k_is
theorem mn52_startElement : findIn (hdK.heap_1 w.params) (.ref 52) "startElement" = some none := by k_is
theorem mo_startElement : MisO w "startElement" := ⟨by k_is, by k_is, am_miss_of_fast (by decide +kernel), am_miss_of_fast (by decide +kernel), am_miss_of_fast (by decide +kernel), by decide, by decide +kernel, by decide +kernel, by rfl, by intros; rfl, by intros; rfl⟩
theorem mn164_notationDecl : findIn (hdK.heap_1 w.params) (.ref 164) "notationDecl" = some none := by k_is
theorem mn213_notationDecl : findIn (hdK.heap_1 w.params) (.ref 213) "notationDecl" = some none := by k_is
theorem mn52_notationDecl : findIn (hdK.heap_1 w.params) (.ref 52) "notationDecl" = some none := by k_is
theorem mo_notationDecl : MisO w "notationDecl" := ⟨by k_is, by k_is, am_miss_of_fast (by decide +kernel), am_miss_of_fast (by decide +kernel), am_miss_of_fast (by decide +kernel), by decide, by decide +kernel, by decide +kernel, by rfl, by intros; rfl, by intros; rfl⟩
theorem mn164_resolveEntity : findIn (hdK.heap_1 w.params) (.ref 164) "resolveEntity" = some none := by k_is
theorem mn192_resolveEntity : findIn (hdK.heap_1 w.params) (.ref 192) "resolveEntity" = some none := by k_is
theorem mn52_resolveEntity : findIn (hdK.heap_1 w.params) (.ref 52) "resolveEntity" = some none := by k_is
theorem mo_resolveEntity : MisO w "resolveEntity" := ⟨by k_is, by k_is, am_miss_of_fast (by decide +kernel), am_miss_of_fast (by decide +kernel), am_miss_of_fast (by decide +kernel), by decide, by decide +kernel, by decide +kernel, by rfl, by intros; rfl, by intros; rfl⟩
end
section
variable {prog : Program} {w : World} {mg mb : Str → Option Value} {A : Around} {E : Value → Shared → Prop} {s : Shared} {h h₀ : Heap} {t : Nat} {outer : List Env}
/-- a handler's class of kind k has no such name -/
def MisK (w : World) (name : Str) (k : Nat) : Prop := match k with
  | 0 => findIn (hdK.heap_1 w.params) (.ref 164) name = some none | 1 => findIn (hdK.heap_1 w.params) (.ref 192) name = some none | 2 => findIn (hdK.heap_1 w.params) (.ref 213) name = some none | 3 => findIn (hdK.heap_1 w.params) (.ref 52) name = some none | _ => True
theorem miss_thing (B : Base0 w mg mb h₀) (b : Bs h₀ h) (hh : A.handled = none) {k : Nat} {v : Value} {name : Str} {pl : Sem Bool} {Q : Value × List Value → Shared → Prop} (T : Thing h k v) (mo : MisO w name) (mk : MisK w name k)
    (q : ∀ h' tk e, Heap.NewAttrErr h h' e v name → E (.ref e) (St s h' tk)) : wpAny (model prog w) A (getMethod v name pl) Q E (St s h t) := by
  have X := b.in B
  have hl : name.length + 100 ≤ sizeLine := by have := mo.len; rw [sizeLine_eq]; omega
  have hl' : name.length ≤ 1000 := by have := mo.len; omega
  match k, T, mk with
  | 0, ⟨a, d, kk, tt, n, e, ha, hd⟩, mk =>
    subst e
    exact miss_inst B b hh (od := some _) ⟨ha, rfl, rfl, hd⟩ mc164.ga mc164.gk mk (findObj_miss mc164.hs mk mo.cop (mo.loc _ _ _)) mc164.nm (by decide) hl' q
  | 1, ⟨a, d, e, ha, hd⟩, mk =>
    subst e
    exact miss_inst B b hh (od := some _) ⟨ha, rfl, rfl, hd⟩ mc192.ga mc192.gk mk (findObj_miss mc192.hs mk mo.cop mo.emp) mc192.nm (by decide) hl' q
  | 2, ⟨a, d, e, ha, hd⟩, mk =>
    subst e
    exact miss_inst B b hh (od := some _) ⟨ha, rfl, rfl, hd⟩ mc213.ga mc213.gk mk (findObj_miss mc213.hs mk mo.cop mo.emp) mc213.nm (by decide) hl' q
  | 3, ⟨a, d, e, ha, hd⟩, mk =>
    subst e
    exact miss_inst B b hh (od := some _) ⟨ha, rfl, rfl, hd⟩ mc52.ga mc52.gk mk (findObj_miss mc52.hs mk mo.cop mo.emp) mc52.nm (by decide) hl' q
  | 4, T, _ =>
    rcases T with rfl | ⟨a, n, rfl, ha⟩
    · exact miss_none hh mo.non hl q
    · exact miss_list hh ha mo.lst hl mo.odd q
  | _ + 5, ⟨e, C, dxo, tup, y, o, x, T, hv, R, hA, hy⟩, _ =>
    subst hv
    rcases hA with ⟨hC, rfl, k1, k2, t1, t2, n, tx, rfl⟩ | ⟨rfl, rfl, rfl, tx, rfl⟩
    · rcases hC with rfl | rfl
      · exact miss_sax X hh (od := some _) ⟨R.exc, rfl, rfl, hy⟩ ec276 mc276.ga mc276.gk mo.r276 (findObj_miss mc276.hs mo.r276 mo.cop (mo.msg _ _ _ _ _ _ _)) mc276.nm (by decide) hl' q
      · exact miss_sax X hh (od := some _) ⟨R.exc, rfl, rfl, hy⟩ ec288 mc288.ga mc288.gk mo.s288 (findObj_miss mc288.hs mo.s288 mo.cop (mo.msg _ _ _ _ _ _ _)) mc288.nm (by decide) hl' q
    · exact miss_nie hh R.exc mo.nie hl mo.odd q
end
end Mine
end
section
open PySem PySem.W PySem.W.X PyProof.Rows PySem.Calls
namespace Mine
theorem fill11 : (fun (_ : OpenLaw) (_ : Params → Frag) => True) PySem.Challenge.rw_kl0193_01 hdK.heap_1 := by
  k_fill
  trivial
theorem boot_att : bootBuiltins "AttributeError" = some (.type "AttributeError") := by decide +kernel
section
variable {prog : Program} {w : World} {mg mb : Str → Option Value} {A : Around} {E : Value → Shared → Prop} {s : Shared} {h h₀ : Heap} {t : Nat} {outer : List Env}
theorem land_new {env : Env} {L : Addr} {e : Addr} {tup C : Value} {dxo : Option Addr} {rest : List Value} {Q : Unit → Shared → Prop} (hfr : A.frames = some (env :: outer)) (hl : h.FunFrames {} (env :: outer)) (hf : env.frame = some L) (he : h.get? e = some (exG C dxo tup .none rest))
    (k : ∀ h₄ T', Rz h₄ e C dxo tup rest T' .none → Chg (frs (env :: outer)) (fun b => b = e) h h₄ → h.get? T' = none → Q () (St s h₄ t)) :
    wpAny (model prog w) A (noteFrame (.ref e) env) (fun _ s₂ => wpAny (model prog w) A (setFlight (.ref e) none) Q E s₂) E (St s h t) := by
  refine note0 hfr hl hf he (.inl rfl) fun h₁ T' hT' R₁ c₁ => ?_
  refine land0 R₁ fun h₂ R₂ x₂ n₂ => k h₂ T' R₂ ⟨fun b o nb nx q => ?_, fun l hl o q => ?_⟩ hT'
  · refine x₂ b o (fun z => ?_) (c₁.keep b o nb (fun z => z.elim nx (fun z => by cases z)) q)
    rw [List.mem_singleton.mp z, hT'] at q; cases q
  · obtain ⟨sl, q1⟩ := c₁.fram l hl o q
    exact ⟨sl, x₂ l _ (fun z => by rw [List.mem_singleton.mp z, hT'] at q; cases q) q1⟩
/-- a missed attribute lands in the frame -/
theorem att_land {env : Env} {L e : Addr} {o : Value} {name : Str} {h₁ h' : Heap} {m : Str → Option Value} {Q : Unit → Shared → Prop} (hfr : A.frames = some (env :: outer)) (hF : h₁.FunFrames {} (env :: outer)) (hf : env.frame = some L)
    (k₁ : h.StaysIn h₁) (F₁ : Fr h₀ L h₁ m) (hL : h.get? L = none) (hb : ∀ l ∈ frs outer, h₀.get? l = none) (N : Heap.NewAttrErr h₁ h' e o name)
    (k : ∀ h₃ T' tup rest, Rz h₃ e (.type "AttributeError") none tup rest T' .none → Fr h₀ L h₃ m → Chg (frs outer) (fun _ => False) h h₃ → h₁.get? T' = none → Q () (St s h₃ t)) :
    wpAny (model prog w) A (noteFrame (.ref e) env) (fun _ s₂ => wpAny (model prog w) A (setFlight (.ref e) none) Q E s₂) E (St s h' t) := by
  obtain ⟨t', u', he⟩ := N.there
  have k₂ : h₁.StaysIn h' := N.keeps
  refine land_new (rest := [.none, .none, .bool false, .none, .str name u', o]) (tup := t') (dxo := none) hfr (funF_ex (Ex.of_stays (S := []) k₂) hF (by simp)) hf he (fun h₃ T' R₃ c₃ hT' => ?_)
  have efr : frs (env :: outer) = L :: frs outer := by simp [frs, hf]
  rw [efr] at c₃
  have F₃ : Fr h₀ L h₃ m := fr_chg (F₁.keeps k₂) c₃ (fun b z => by rw [z]; exact none_of F₁.keep N.new) hb
  have c : Chg (L :: frs outer) (fun _ => False) h h₃ := (Chg.stays_left (stays_trans k₁ k₂) c₃).mono fun b o q z => by
    rw [z] at q; rw [none_of k₁ N.new] at q; cases q
  exact k h₃ T' t' _ R₃ F₃ (c.less hL) (none_of k₂ hT')
/-- the clause that gives None -/
theorem att_end {L e T : Addr} {tup : Value} {rest : List Value} {h₃ h₁ : Heap} {m : Str → Option Value} {Q : Flow → Shared → Prop} {cn : Str} {cs : Scope} {f : Addr} {cd : Value} {p1 p2 p3 pos : Pos} {hs : List ExceptHandler}
    (B : Base0 w mg mb h₀) (R : Rz h₃ e (.type "AttributeError") none tup rest T .none) (F₃ : Fr h₀ L h₃ m) (c : Chg (frs outer) (fun _ => False) h h₃) (k₁ : h.StaysIn h₁) (hl : h.FunFrames {} outer) (hT : h₁.get? T = none)
    (k : ∀ h₅ t', Chg (frs outer) (fun _ => False) h h₅ → Q (.ret .none) (St s h₅ t'))
    (hk : cs.kind = .function := by rfl) (hx : (envOf cn cs L f cd).kindOf "AttributeError" = some .globalImplicit := by rfl) :
    wpAny (model prog w) A (handleBy (.ref e) (envOf cn cs L f cd) (.ExceptHandler (some (.Name "AttributeError" p1)) none [.Return (some (.Constant .none 0 p2)) p3] pos :: hs)) Q E (St s h₃ t) := by
  have X : (hdK.heap_1 w.params).In h₃ := (Bs.of F₃).in B
  refine wpAny_handleBy_cons (clause_test X R.exc cl_att_att (fun A' Q' N' q => name_B F₃ B.X B.T (by k_is) boot_att (by decide) q hk hx (by decide)) ?_) (by intro q; cases q)
  show codeAny _ _ _ _ _
  refine codeAny_handlers_suite (land0 R fun h₄ R₄ x₄ n₄ => ?_)
  refine wpAny_execs_cons (wpAny_Return_some ?_)
  refine wpAny_Constant_none ?_
  refine k h₄ _ ⟨fun b o nb nx q => x₄ b o (fun z => ?_) (c.keep b o nb nx q), fun l hl' o q => ?_⟩
  · rw [List.mem_singleton.mp z, none_of k₁ hT] at q; cases q
  · obtain ⟨sl, q1⟩ := c.fram l hl' o q
    exact ⟨sl, x₄ l _ (fun z => by rw [List.mem_singleton.mp z, none_of k₁ hT] at q; cases q) q1⟩
/-- x.name(..), x an own object -/
theorem ev_imeth (B : Base0 w mg mb h₀) {m : Str → Option Value} {cn : Str} {cs : Scope} {L f r C g : Addr} {ox : Obj} {es : Array DictEntry} {nn : Nat} {cd : Value} {x name : Str} {p1 p2 pos : Pos} {args : List Expr} {a₀ : Expr} {Q : Value → Shared → Prop} (F : Fr h₀ L h m)
    (hm : m x = some (.ref r)) (I : InstAt h r ox C (some (dct es nn)))
    (hg : plainGet (hdK.heap_1 w.params) C name = true) (hf : findIn (hdK.heap_1 w.params) (.ref C) name = some (some (.ref g))) (ht : isFn (hdK.heap_1 w.params) (.ref g) = true) (hkp : keepIn (hdK.heap_1 w.params) (.ref g) = true)
    (hn : getL name es.toList = some none)
    (k : wpAny (model prog w) A (spliced (backTo pos (starEach (a₀ :: args) (envOf cn cs L f cd)))) (fun vs s₁ => (hdK.heap_1 w.params).In s₁.heap ∧ wpAny (model prog w) A (call (.ref g) (.ref r :: vs)) Q E s₁) E (St s h t))
    (he : starEach (a₀ :: args) (envOf cn cs L f cd) = (false, eval a₀ (envOf cn cs L f cd)) :: starEach args (envOf cn cs L f cd) := by rfl) (hplain : (backTo pos (starEach args (envOf cn cs L f cd))).any (·.1) = false := by rfl)
    {pl : Sem Bool}
    (hev : eval (.Call (.Attribute (.Name x p1) name p2) (a₀ :: args) [] pos) (envOf cn cs L f cd) = (do
      let ov ← eval (.Name x p1) (envOf cn cs L f cd)
      standAt p2.atName
      let (f', first) ← holding [ov] (getMethod ov name pl)
      callWith pos f' first (backTo pos (starEach (a₀ :: args) (envOf cn cs L f cd))) []) := by rfl)
    (hk : cs.kind = .function := by rfl) (hx : (envOf cn cs L f cd).kindOf x = some .local := by rfl) (hdb : (x == ("__debug__" : Str)) = false := by decide) :
    wpAny (model prog w) A (eval (.Call (.Attribute (.Name x p1) name p2) (a₀ :: args) [] pos) (envOf cn cs L f cd)) Q E (St s h t) := by
  refine MethodCall_ (ld F hm ?_ hk hx hdb) hev
  refine method_inst (es := es.toList) F B.X I hg hf ht hn ?_
  exact callWith_K B.X hkp k he hplain
abbrev scEvt : Scope := { kind := ScopeKind.function, names := [(Str.ofString "handler", NameKind.local), (Str.ofString "event", NameKind.local), (Str.ofString "words", NameKind.local), (Str.ofString "thing", NameKind.local), (Str.ofString "AttributeError", NameKind.globalImplicit)], isGenerator := false, isCoroutine := false }
theorem Thing.stays {k : Nat} {v : Value} (x : Thing h k v) {h' : Heap} (q : h.StaysIn h') : Thing h' k v := by
  match k, x with
  | 0, ⟨a, d, kk, tt, n, e, ha, hd⟩ => exact ⟨a, d, kk, tt, n, e, q _ _ ha, q _ _ hd⟩
  | 1, ⟨a, d, e, ha, hd⟩ => exact ⟨a, d, e, q _ _ ha, q _ _ hd⟩
  | 2, ⟨a, d, e, ha, hd⟩ => exact ⟨a, d, e, q _ _ ha, q _ _ hd⟩
  | 3, ⟨a, d, e, ha, hd⟩ => exact ⟨a, d, e, q _ _ ha, q _ _ hd⟩
  | 4, x => exact x.imp id fun ⟨a, n, e, ha⟩ => ⟨a, n, e, q _ _ ha⟩
  | _ + 5, ⟨e, C, dxo, tup, y, o, x, T, hv, R, hA, hy⟩ => exact ⟨e, C, dxo, tup, y, o, x, T, hv, R.stays q, hA, q _ _ hy⟩
theorem event_spec (B : Base0 w mg mb h₀) (b : Bs h₀ h) (am : Am A 440 1700) (hfr : A.frames = some outer) (hl : h.FunFrames {} outer) (hb : ∀ l ∈ frs outer, h₀.get? l = none) {kd : Nat} {ev : Int} {te tx : Tok} {x : Str} {v u : Value} (T : Thing h kd v)
    (he0 : 0 ≤ ev) (he1 : ev < 3) {Q : Value → Shared → Prop}
    (khit : (kd : Int) = ev → ∀ h' t' a n, h.StaysIn h' → h.get? a = none → h'.get? a = some (lstO #[if ev = 2 then u else .none] n) → Q (.ref a) (St s h' t'))
    (kmiss : (kd : Int) ≠ ev → ∀ h' t', Chg (frs outer) (fun _ => False) h h' → Q .none (St s h' t')) :
    wpAny (model prog w) A (call (.ref 482) [v, .int ev te, .str x tx, u]) Q E (St s h t) := by
  refine wpAny_call (enter B b am (binds := [("handler", v), ("event", .int ev te), ("words", .str x tx), ("thing", u)]) (by k_is) (by k_is) (BindsTo.of_eq rfl) (locs rfl) (fun h₁ F k₁ => ?_))
  have hl₁ : h₁.FunFrames {} outer := funF_ex (Ex.of_stays (S := []) k₁) hl (by simp)
  have X : (hdK.heap_1 w.params).In h₁ := (Bs.of F).in B
  have hL := size_none h
  generalize h.objs.size = L at *
  have am' : Am (A.deeper (envOf "_law_event" scEvt L 482 (.ref 481))) 441 1703 := am.deeper _
  have hF : h₁.FunFrames {} (envOf "_law_event" scEvt L 482 (.ref 481) :: outer) := Heap.FunFrames.cons nofun rfl F.ns rfl hl₁
  have hfr' := Around.frames_deeper (env := envOf "_law_event" scEvt L 482 (.ref 481)) hfr
  refine wpAny_execs_cons (wpAny_Try_except ?_)
  generalize A.deeper _ = A' at *
  have T₁ := T.stays k₁
  have three : ev = 0 ∨ ev = 1 ∨ ev = 2 := by omega
  have hit : ∀ {a : Addr} {n : Nat} {h₂ h₃ : Heap} {t' : Nat} {z : Value}, (kd : Int) = ev → h₁.StaysIn h₂ → z = (if ev = 2 then u else .none) → Q (.ref h₂.objs.size) (St s (h₂.push (lstO #[z] 0)) t') := by
    intro a n h₂ h₃ t' z q k₂ e
    have q0 : h.get? h₂.objs.size = none := none_of (stays_trans k₁ k₂) (size_none h₂)
    exact khit q _ t' h₂.objs.size 0 (stays_trans (stays_trans k₁ k₂) (stays_push _ _)) q0 (by rw [← e]; exact Heap.get?_push_size _ rfl)
  rcases three with rfl | rfl | rfl
  · refine wpAny_execs_cons (wpAny_If (wpAny_isTrue_Compare1 (ld F rfl (wpAny_Constant_int (eq_int (wpAny_truthy_bool ?_))))))
    rw [if_pos (by decide)]
    refine wpAny_execs_cons (wpAny_Return_some (List_ (spliced_more ?_)))
    by_cases q : kd = 0
    · subst q
      obtain ⟨a, d, kk, tt, n, rfl, ha, hd'⟩ := T₁
      refine ev_imeth B F rfl (ox := inst 164 d) (C := 164) ⟨ha, rfl, rfl, hd'⟩ (by k_is) (by k_is) (by k_is) (by k_is) (by rfl) (spliced_more (ld F rfl (spliced_more (ld F rfl (spliced_none ⟨X, ?_⟩)))))
      refine Lf.use2 (lift am'.mono (ev0_leaf X)) fun z h₂ t₂ k₂ e => ?_
      subst e
      exact spliced_none (newL (hit (a := 0) (n := 0) (h₃ := h₂) rfl k₂ (by simp)) (by simp))
    · refine MethodCall_ (ld F rfl (miss_thing B (Bs.of F) am'.handled T₁ mo_startElement ?_ fun h' tk e x => ?_))
      · match kd, q with
        | 1, _ => exact mn192_startElement
        | 2, _ => exact mn213_startElement
        | 3, _ => exact mn52_startElement
        | _ + 4, _ => trivial
      · refine att_land hfr' hF rfl k₁ F hL hb x fun h₃ T' tup rest R₃ F₃ c hT' => ?_
        exact att_end B R₃ F₃ c k₁ hl hT' fun h₅ t' c' => kmiss (by omega) h₅ t' c'
  · refine wpAny_execs_cons (wpAny_If (wpAny_isTrue_Compare1 (ld F rfl (wpAny_Constant_int (eq_int (wpAny_truthy_bool ?_))))))
    rw [if_neg (by decide)]
    refine wpAny_execs_nil ?_
    refine wpAny_execs_cons (wpAny_If (wpAny_isTrue_Compare1 (ld F rfl (wpAny_Constant_int (eq_int (wpAny_truthy_bool ?_))))))
    rw [if_pos (by decide)]
    refine wpAny_execs_cons (wpAny_Return_some (List_ (spliced_more ?_)))
    by_cases q : kd = 1
    · subst q
      obtain ⟨a, d, rfl, ha, hd'⟩ := T₁
      refine ev_imeth B F rfl (ox := inst 192 d) (C := 192) ⟨ha, rfl, rfl, hd'⟩ (by k_is) (by k_is) (by k_is) (by k_is) (by rfl) (spliced_more (ld F rfl (spliced_more (ld F rfl (spliced_more (ld F rfl (spliced_none ⟨X, ?_⟩)))))))
      refine Lf.use2 (lift am'.mono (ev1_leaf X)) fun z h₂ t₂ k₂ e => ?_
      subst e
      exact spliced_none (newL (hit (a := 0) (n := 0) (h₃ := h₂) rfl k₂ (by simp)) (by simp))
    · refine MethodCall_ (ld F rfl (miss_thing B (Bs.of F) am'.handled T₁ mo_notationDecl ?_ fun h' tk e x => ?_))
      · match kd, q with
        | 0, _ => exact mn164_notationDecl
        | 2, _ => exact mn213_notationDecl
        | 3, _ => exact mn52_notationDecl
        | _ + 4, _ => trivial
      · refine att_land hfr' hF rfl k₁ F hL hb x fun h₃ T' tup rest R₃ F₃ c hT' => ?_
        exact att_end B R₃ F₃ c k₁ hl hT' fun h₅ t' c' => kmiss (by omega) h₅ t' c'
  · refine wpAny_execs_cons (wpAny_If (wpAny_isTrue_Compare1 (ld F rfl (wpAny_Constant_int (eq_int (wpAny_truthy_bool ?_))))))
    rw [if_neg (by decide)]
    refine wpAny_execs_nil ?_
    refine wpAny_execs_cons (wpAny_If (wpAny_isTrue_Compare1 (ld F rfl (wpAny_Constant_int (eq_int (wpAny_truthy_bool ?_))))))
    rw [if_neg (by decide)]
    refine wpAny_execs_nil ?_
    refine wpAny_execs_cons (wpAny_Return_some (List_ (spliced_more ?_)))
    by_cases q : kd = 2
    · subst q
      obtain ⟨a, d, rfl, ha, hd'⟩ := T₁
      refine ev_imeth B F rfl (ox := inst 213 d) (C := 213) ⟨ha, rfl, rfl, hd'⟩ (by k_is) (by k_is) (by k_is) (by k_is) (by rfl) (spliced_more (ld F rfl (spliced_more (ld F rfl (spliced_none ⟨X, ?_⟩)))))
      refine Lf.use2 (lift am'.mono (ev2_leaf X)) fun z h₂ t₂ k₂ e => ?_
      subst e
      exact spliced_none (newL (hit (a := 0) (n := 0) (h₃ := h₂) rfl k₂ (by simp)) (by simp))
    · refine MethodCall_ (ld F rfl (miss_thing B (Bs.of F) am'.handled T₁ mo_resolveEntity ?_ fun h' tk e x => ?_))
      · match kd, q with
        | 0, _ => exact mn164_resolveEntity
        | 1, _ => exact mn192_resolveEntity
        | 3, _ => exact mn52_resolveEntity
        | _ + 4, _ => trivial
      · refine att_land hfr' hF rfl k₁ F hL hb x fun h₃ T' tup rest R₃ F₃ c hT' => ?_
        exact att_end B R₃ F₃ c k₁ hl hT' fun h₅ t' c' => kmiss (by omega) h₅ t' c'
end
end Mine
end
section
open PySem PySem.W PySem.W.X PyProof.Rows PySem.Calls
namespace Mine
theorem fill12 : (fun (_ : OpenLaw) (_ : Params → Frag) => True) PySem.Challenge.rw_kl0193_01 hdK.heap_1 := by
  k_fill
  trivial
section
variable {prog : Program} {w : World} {mg mb : Str → Option Value} {A : Around} {E : Value → Shared → Prop} {s : Shared} {h h₀ : Heap} {t : Nat} {outer : List Env}
theorem rz_not {e T : Addr} {C tup fl : Value} {dxo : Option Addr} {rest : List Value} (R : Rz h e C dxo tup rest T fl) {l : List Env} (hl : h.FunFrames {} l) : e ∉ frs l ∧ T ∉ frs l := by
  obtain ⟨he, hTe, ts, hT, h3⟩ := R
  refine ⟨fun z => ?_, fun z => ?_⟩
  · obtain ⟨_, o, ho, q⟩ := hl.mem z
    rw [he] at ho; cases ho; exact q _ rfl
  · obtain ⟨_, o, ho, q⟩ := hl.mem z
    rw [hT] at ho; cases ho; exact q _ rfl
/-- an old error leaves a frame -/
theorem fly_old {R' : Result → Shared → Prop} {e T : Addr} {tup C : Value} {dxo : Option Addr} {rest : List Value} {cn : Str} {cs : Scope} {L f : Addr} {cd : Value} {m : Str → Option Value}
    (hfr : A.frames = some outer) (hl : h.FunFrames {} outer) (F : Fr h₀ L h m) (R : Rz h e C dxo tup rest T .none)
    (k : ∀ h₃ T', Rz h₃ e C dxo tup rest T' .none → Chg (L :: frs outer) (fun b => b = e ∨ b = T) h h₃ → h.get? T' = none → R' (.error (.ref e)) (St s h₃ t)) (hk : cs.kind = .function := by rfl) :
    wpAny (model prog w) (A.deeper (envOf cn cs L f cd)) (setFlight (.ref e) none) (fun _ s₂ => wpAny (model prog w) (A.deeper (envOf cn cs L f cd)) (leaving (envOf cn cs L f cd) (.ref e)) (fun _ s'' => R' (.error (.ref e)) s'') (fun e' s'' => R' (.error e') s'') s₂) E (St s h t) := by
  have hF : h.FunFrames {} (envOf cn cs L f cd :: outer) := Heap.FunFrames.cons (by show cs.kind ≠ _; rw [hk]; decide) rfl F.ns rfl hl
  refine land0 R fun h₁ R₁ x₁ n₁ => ?_
  have hF₁ : h₁.FunFrames {} (envOf cn cs L f cd :: outer) := funF_ex x₁ hF fun b hb z => (rz_not R hF).2 (by rw [List.mem_singleton.mp z] at hb; exact hb)
  unfold leaving
  obtain ⟨ts, hT, h3⟩ := R₁.tb
  refine wpAny_bind (note0 (Around.frames_deeper hfr) hF₁ rfl R₁.exc (.inr ⟨T, ts, rfl, R₁.ne, hT, h3⟩) fun h₂ T' hT' R₂ c₂ => ?_)
  refine land0 R₂ fun h₃ R₃ x₃ n₃ => ?_
  have hTn : h.get? T' = none := by
    cases q : h.get? T' with
    | none => rfl
    | some o =>
      by_cases z : T' ∈ [T]
      · rw [List.mem_singleton.mp z, hT] at hT'; cases hT'
      · rw [x₁ _ _ z q] at hT'; cases hT'
  refine k h₃ T' R₃ ⟨fun b o nb nx q => ?_, fun l hl o q => ?_⟩ hTn
  · have q1 := x₁ b o (fun z => nx (.inr (List.mem_singleton.mp z))) q
    refine x₃ b o (fun z => ?_) (c₂.keep b o nb (fun z => nx (z.elim .inl fun z => .inr (by cases z; rfl))) q1)
    rw [List.mem_singleton.mp z, hTn] at q; cases q
  · have q1 := x₁ l o (fun z => (rz_not R hF).2 (by rw [List.mem_singleton.mp z] at hl; exact hl)) q
    obtain ⟨sl, q2⟩ := c₂.fram l hl o q1
    exact ⟨sl, x₃ l _ (fun z => by rw [List.mem_singleton.mp z, hTn] at q; cases q) q2⟩
/-- an ErrorHandler's method: the error goes up -/
theorem err_raises (B : Base0 w mg mb h₀) (b : Bs h₀ h) (am : Am A 450 1800) (hfr : A.frames = some outer) (hl : h.FunFrames {} outer) {a e T : Addr} {tup C : Value} {dxo : Option Addr} {Q : Value → Shared → Prop} {fatal : Bool} (R : Rz h e C dxo tup xr T .none) (ec : EC w C)
    (k : ∀ h' t' T', Rz h' e C dxo tup xr T' .none → Chg (frs outer) (fun b => b = e ∨ b = T) h h' → h.get? T' = none → E (.ref e) (St s h' t')) :
    wpAny (model prog w) A (call (.ref (if fatal then 42 else 35)) [.ref a, .ref e]) Q E (St s h t) := by
  have go : ∀ {L f h₁ cn cd} {m : Str → Option Value} {pos p1 : Pos} {t₁ : Nat} {Q' : Flow → Shared → Prop}, L = h.objs.size → Fr h₀ L h₁ m → m "exception" = some (.ref e) → h.StaysIn h₁ →
      wpAny (model prog w) (A.deeper (envOf cn ⟨.function, [("self", .local), ("exception", .local)], false, false, []⟩ L f cd)) (execs [.Raise (some (.Name "exception" p1)) none pos] (envOf cn ⟨.function, [("self", .local), ("exception", .local)], false, false, []⟩ L f cd)) Q'
        (fun e s' => wpAny (model prog w) (A.deeper (envOf cn ⟨.function, [("self", .local), ("exception", .local)], false, false, []⟩ L f cd)) (leaving (envOf cn ⟨.function, [("self", .local), ("exception", .local)], false, false, []⟩ L f cd) e) (fun _ s'' => E e s'') (fun e' s'' => E e' s'') s') (St s h₁ t₁) := by
    intro L f h₁ cn cd m pos p1 t₁ Q' hL F hm k₁
    have hLn : h.get? L = none := by rw [hL]; exact size_none h
    have X : (hdK.heap_1 w.params).In h₁ := (Bs.of F).in B
    have hl₁ : h₁.FunFrames {} outer := funF_ex (Ex.of_stays (S := []) k₁) hl (by simp)
    refine wpAny_execs_cons (raise0 (am.deeper _).handled (ld F hm ⟨e, C, dxo, tup, _, xr, rfl, X, ec, (R.stays k₁).exc, ?_⟩))
    refine fly_old (R' := fun r s' => match r with | .ok _ => False | .error e => E e s') hfr hl₁ F (R.stays k₁) fun h₃ T' R₃ c₃ hT' => ?_
    exact k h₃ _ T' R₃ ((Chg.stays_left k₁ c₃).less hLn) (none_of k₁ hT')
  cases fatal with
  | true =>
    rw [if_pos rfl]
    refine wpAny_call (enter B b am (binds := [("self", .ref a), ("exception", .ref e)]) (by k_is) (by k_is) (BindsTo.of_eq rfl) (locs rfl) (fun h₁ F k₁ => ?_))
    exact go rfl F rfl k₁
  | false =>
    rw [if_neg (by decide)]
    refine wpAny_call (enter B b am (binds := [("self", .ref a), ("exception", .ref e)]) (by k_is) (by k_is) (BindsTo.of_eq rfl) (locs rfl) (fun h₁ F k₁ => ?_))
    exact go rfl F rfl k₁
abbrev scHand : Scope := { kind := ScopeKind.function, names := [(Str.ofString "handler", NameKind.local), (Str.ofString "error", NameKind.local), (Str.ofString "fatal", NameKind.local), (Str.ofString "caught", NameKind.local), (Str.ofString "SAXException", NameKind.globalImplicit), (Str.ofString "NotImplementedError", NameKind.globalImplicit), (Str.ofString "AttributeError", NameKind.globalImplicit)], isGenerator := false, isCoroutine := false }
/-- a clause that returns the error itself -/
theorem clause_back {e T T₂ T₃ : Addr} {C C' tup : Value} {dxo : Option Addr} {tE : Expr} {p2 p4 pos : Pos} {hs : List ExceptHandler} {Q : Flow → Shared → Prop} {cn : Str} {cs : Scope} {L f : Addr} {cd : Value} {m : Str → Option Value} {h₁ h₂ h₃ : Heap}
    (B : Base0 w mg mb h₀) (b : Bs h₀ h) (hT0 : h₀.get? T = none) (k₁ : h.StaysIn h₁) (F₁ : Fr h₀ L h₁ m) (hL : h.get? L = none) (hl : h.FunFrames {} outer) (R : Rz h e C dxo tup xr T .none)
    (c₂ : Chg (L :: frs outer) (fun b => b = e ∨ b = T) h₁ h₂) (hT2 : h₁.get? T₂ = none) (R₂ : Rz h₂ e C dxo tup xr T₂ .none) (c₃ : Chg (L :: frs outer) (fun b => b = e ∨ b = T₂) h₂ h₃) (hT3 : h₂.get? T₃ = none) (R₃ : Rz h₃ e C dxo tup xr T₃ .none) (F₃ : Fr h₀ L h₃ m)
    (cl : CL w C C' true) (hev : ∀ (A' : Around) (Q' : Value → Shared → Prop) (N : Value → Shared → Prop), Q' C' (St s h₃ t) → wpAny (model prog w) A' (eval tE (envOf cn cs L f cd)) Q' N (St s h₃ t))
    (k : ∀ h' t' T', Rz h' e C dxo tup xr T' .none → Chg (frs outer) (fun b => b = e ∨ b = T) h h' → (h.get? T' = none ∨ T' = T) → Q (.ret (.ref e)) (St s h' t'))
    (hk : cs.kind = .function := by rfl) (hlo : (envOf cn cs L f cd).kindOf "caught" = some .local := by rfl) :
    wpAny (model prog w) A (handleBy (.ref e) (envOf cn cs L f cd) (.ExceptHandler (some tE) (some "caught") [.Return (some (.Name "caught" p2)) p4] pos :: hs)) Q E (St s h₃ t) := by
  have X : (hdK.heap_1 w.params).In h₃ := (Bs.of F₃).in B
  obtain ⟨ts, hT, _⟩ := R.tb
  have nf := rz_not R hl
  have heL : e ≠ L := ne_of R.exc hL
  have hTL : T ≠ L := ne_of hT hL
  have T3h : h.get? T₃ = none ∨ T₃ = T := by
    cases q : h.get? T₃ with
    | none => exact .inl rfl
    | some o =>
      by_cases z3 : T₃ = T
      · exact .inr z3
      refine .inl ?_
      have q1 := k₁ _ _ q
      by_cases z : T₃ ∈ L :: frs outer
      · obtain ⟨sl, q2⟩ := c₂.fram _ z _ q1
        rw [hT3] at q2; cases q2
      · by_cases z2 : T₃ = e
        · have q2 := R₂.exc
          rw [← z2, hT3] at q2; cases q2
        · have q2 := c₂.keep _ _ z (fun y => y.elim z2 z3) q1
          rw [hT3] at q2; cases q2
  have hT3L : T₃ ≠ L := by
    rintro rfl
    obtain ⟨o, ho⟩ := fr_live F₁
    obtain ⟨sl, q2⟩ := c₂.fram _ (.head _) _ ho
    rw [hT3] at q2; cases q2
  have hT30 : h₀.get? T₃ = none := by
    rcases T3h with y | y
    · exact none_of b.keep y
    · rw [y]; exact hT0
  refine clause_as X F₃ R₃ hT3L heL hT30 cl hev (fun h₄ t₄ F₄ R₄ x₄ n₄ => ?_) hk hlo
  refine wpAny_execs_cons (wpAny_Return_some (ld F₄ (v := .ref e) (if_pos rfl) ?_ hk hlo))
  refine ⟨_, _, _, _, rfl, rfl, F₄, fun h₅ t₅ m₅ F₅ x₅ => ?_⟩
  have fL : ∀ l ∈ frs outer, l ≠ L := fun l hm => by
    obtain ⟨_, o, ho, _⟩ := hl.mem hm
    exact ne_of ho hL
  have f3 : ∀ l ∈ frs outer, l ≠ T₃ := fun l hm z => by
    obtain ⟨_, o, ho, _⟩ := hl.mem hm
    obtain ⟨sl, q2⟩ := c₂.fram _ (.tail _ hm) _ (k₁ _ _ ho)
    rw [z, hT3] at q2; cases q2
  have cw : Chg (frs outer) (fun b => b = L ∨ b = e ∨ b = T ∨ b = T₂ ∨ b = T₃) h h₅ := by
    have a2 := c₂.pop.mono (X' := fun b => b = L ∨ b = e ∨ b = T ∨ b = T₂ ∨ b = T₃) fun b _ _ z => z.elim .inl fun z => z.elim (fun z => .inr (.inl z)) fun z => .inr (.inr (.inl z))
    have a3 := c₃.pop.mono (X' := fun b => b = L ∨ b = e ∨ b = T ∨ b = T₂ ∨ b = T₃) fun b _ _ z => z.elim .inl fun z => z.elim (fun z => .inr (.inl z)) fun z => .inr (.inr (.inr (.inl z)))
    have a4 := (Chg.of_ex (fs := frs outer) x₄ fun l hm => by simpa using ⟨f3 l hm, fL l hm⟩).mono (X' := fun b => b = L ∨ b = e ∨ b = T ∨ b = T₂ ∨ b = T₃) fun b _ _ z => (List.mem_cons.mp z).elim (fun z => .inr (.inr (.inr (.inr z)))) fun z => .inl (by simpa using z)
    have a5 := (Chg.of_ex (fs := frs outer) x₅ fun l hm => by simpa using fL l hm).mono (X' := fun b => b = L ∨ b = e ∨ b = T ∨ b = T₂ ∨ b = T₃) fun b _ _ z => .inl (by simpa using z)
    exact Chg.stays_left k₁ (((a2.trans a3 fun _ _ _ z => z).trans a4 fun _ _ _ z => z).trans a5 fun _ _ _ z => z)
  have Tn : ∀ {b o}, h.get? b = some o → b = T₂ → False := fun q z => by
    rw [z] at q; rw [none_of k₁ hT2] at q; cases q
  refine k h₅ t₅ T₃ ⟨x₅ _ _ (by simpa using heL) R₄.exc, R₄.ne, ?_⟩ (cw.mono fun b o q z => ?_) T3h
  · obtain ⟨ts, q1, q2⟩ := R₄.tb
    exact ⟨ts, x₅ _ _ (by simpa using hT3L) q1, q2⟩
  · rcases z with z | z | z | z | z
    · rw [z, hL] at q; cases q
    · exact .inl z
    · exact .inr z
    · exact (Tn q z).elim
    · rcases T3h with y | y
      · rw [z, y] at q; cases q
      · exact .inr (z.trans y)
theorem aux_ec {C tup : Value} {dxo : Option Addr} {y : Addr} {x : Str} {o : Obj} (a : AuxO C dxo tup y x o) : EC w C := by
  rcases a with ⟨rfl | rfl, _⟩ | ⟨rfl, _⟩
  · exact ec276
  · exact ec288
  · exact ecNie
theorem handed_spec (B : Base0 w mg mb h₀) (b : Bs h₀ h) (am : Am A 440 1700) (hfr : A.frames = some outer) (hl : h.FunFrames {} outer) (hb : ∀ l ∈ frs outer, h₀.get? l = none) {kd : Nat} {v : Value} (Tg : Thing h kd v)
    {e T y : Addr} {C tup : Value} {dxo : Option Addr} {x : Str} {o : Obj} (R : Rz h e C dxo tup xr T .none) (hA : AuxO C dxo tup y x o) (he0 : h₀.get? e = none) (hT0 : h₀.get? T = none) {fatal : Bool} {Q : Value → Shared → Prop}
    (khit : kd = 3 → ∀ h' t' T', Rz h' e C dxo tup xr T' .none → Chg (frs outer) (fun b => b = e ∨ b = T) h h' → (h.get? T' = none ∨ T' = T) → Q (.ref e) (St s h' t'))
    (kmiss : kd ≠ 3 → ∀ h' t', Chg (frs outer) (fun _ => False) h h' → Q .none (St s h' t')) :
    wpAny (model prog w) A (call (.ref 475) [v, .ref e, .bool fatal]) Q E (St s h t) := by
  refine wpAny_call (enter B b am (binds := [("handler", v), ("error", .ref e), ("fatal", .bool fatal)]) (by k_is) (by k_is) (BindsTo.of_eq rfl) (locs rfl) (fun h₁ F k₁ => ?_))
  have hl₁ : h₁.FunFrames {} outer := funF_ex (Ex.of_stays (S := []) k₁) hl (by simp)
  have X : (hdK.heap_1 w.params).In h₁ := (Bs.of F).in B
  have hL := size_none h
  generalize h.objs.size = L at *
  have am' : Am (A.deeper (envOf "_law_handed" scHand L 475 (.ref 474))) 441 1703 := am.deeper _
  have hF : h₁.FunFrames {} (envOf "_law_handed" scHand L 475 (.ref 474) :: outer) := Heap.FunFrames.cons nofun rfl F.ns rfl hl₁
  have hfr' := Around.frames_deeper (env := envOf "_law_handed" scHand L 475 (.ref 474)) hfr
  refine wpAny_execs_cons (wpAny_Try_except ?_)
  generalize A.deeper _ = A' at *
  have T₁ := Tg.stays k₁
  have R₁ := R.stays k₁
  cases fatal with
  | true =>
    refine wpAny_execs_cons (wpAny_If (isTrue_plain (ld F rfl (wpAny_truthy_bool ?_))))
    rw [if_pos rfl]
    refine wpAny_execs_cons (wpAny_Return_some (List_ (spliced_more ?_)))
    by_cases q : kd = 3
    · subst q
      obtain ⟨a, d, rfl, ha, hd'⟩ := T₁
      refine ev_imeth (g := 42) B F rfl (ox := inst 52 d) (C := 52) ⟨ha, rfl, rfl, hd'⟩ (by k_is) (by k_is) (by k_is) (by k_is) (by rfl) (spliced_more (ld F rfl (spliced_none ⟨X, ?_⟩)))
      refine err_raises (fatal := true) B (Bs.of F) am'.mono hfr' hF R₁ (aux_ec hA) fun h₂ t₂ T₂ R₂ c₂ hT2 => ?_
      refine land_try hfr' (funF_of_chg c₂ hF fun b hb => hb) rfl R₂ (fun h₃ T₃ R₃ c₃ hT3 => ?_)
      have F₂ := fr_chg F c₂ (fun b z => by rcases z with rfl | rfl; exact he0; exact hT0) hb
      have F₃ := fr_chg F₂ c₃ (fun b z => by rcases z with rfl | rfl; exact he0; exact none_of F.keep hT2) hb
      have X₃ := (Bs.of F₃).in B
      rcases hA with ⟨rfl | rfl, _⟩ | ⟨rfl, _⟩
      · exact clause_back B b hT0 k₁ F hL hl R c₂ hT2 R₂ c₃ hT3 R₃ F₃ cl_276_sax (fun A'' Q' N' q => name_K F₃ B.X B.T (by k_is) q) (khit rfl)
      · exact clause_back B b hT0 k₁ F hL hl R c₂ hT2 R₂ c₃ hT3 R₃ F₃ cl_288_sax (fun A'' Q' N' q => name_K F₃ B.X B.T (by k_is) q) (khit rfl)
      · refine clause_no X₃ R₃.exc cl_nie_sax (fun A'' Q' N' q => name_K F₃ B.X B.T (by k_is) q) ?_
        exact clause_back B b hT0 k₁ F hL hl R c₂ hT2 R₂ c₃ hT3 R₃ F₃ cl_nie_nie (fun A'' Q' N' q => name_B F₃ B.X B.T (by k_is) boot_nie (by decide) q) (khit rfl)
    · refine MethodCall_ (ld F rfl (miss_thing B (Bs.of F) am'.handled T₁ mo_fatalError ?_ fun h' tk e x => ?_))
      · match kd, q with
        | 0, _ => exact mn164_fatalError
        | 1, _ => exact mn192_fatalError
        | 2, _ => exact mn213_fatalError
        | _ + 4, _ => trivial
      · refine att_land hfr' hF rfl k₁ F hL hb x fun h₃ T' tup rest R₃ F₃ c hT' => ?_
        have X₃ := (Bs.of F₃).in B
        refine clause_no X₃ R₃.exc cl_att_sax (fun A'' Q' N' q => name_K F₃ B.X B.T (by k_is) q) ?_
        refine clause_no X₃ R₃.exc cl_att_nie (fun A'' Q' N' q => name_B F₃ B.X B.T (by k_is) boot_nie (by decide) q) ?_
        exact att_end B R₃ F₃ c k₁ hl hT' fun h₅ t' c' => kmiss q h₅ t' c'
  | false =>
    refine wpAny_execs_cons (wpAny_If (isTrue_plain (ld F rfl (wpAny_truthy_bool ?_))))
    rw [if_neg (by decide)]
    refine wpAny_execs_nil ?_
    refine wpAny_execs_cons (wpAny_Return_some (List_ (spliced_more ?_)))
    by_cases q : kd = 3
    · subst q
      obtain ⟨a, d, rfl, ha, hd'⟩ := T₁
      refine ev_imeth (g := 35) B F rfl (ox := inst 52 d) (C := 52) ⟨ha, rfl, rfl, hd'⟩ (by k_is) (by k_is) (by k_is) (by k_is) (by rfl) (spliced_more (ld F rfl (spliced_none ⟨X, ?_⟩)))
      refine err_raises (fatal := false) B (Bs.of F) am'.mono hfr' hF R₁ (aux_ec hA) fun h₂ t₂ T₂ R₂ c₂ hT2 => ?_
      refine land_try hfr' (funF_of_chg c₂ hF fun b hb => hb) rfl R₂ (fun h₃ T₃ R₃ c₃ hT3 => ?_)
      have F₂ := fr_chg F c₂ (fun b z => by rcases z with rfl | rfl; exact he0; exact hT0) hb
      have F₃ := fr_chg F₂ c₃ (fun b z => by rcases z with rfl | rfl; exact he0; exact none_of F.keep hT2) hb
      have X₃ := (Bs.of F₃).in B
      rcases hA with ⟨rfl | rfl, _⟩ | ⟨rfl, _⟩
      · exact clause_back B b hT0 k₁ F hL hl R c₂ hT2 R₂ c₃ hT3 R₃ F₃ cl_276_sax (fun A'' Q' N' q => name_K F₃ B.X B.T (by k_is) q) (khit rfl)
      · exact clause_back B b hT0 k₁ F hL hl R c₂ hT2 R₂ c₃ hT3 R₃ F₃ cl_288_sax (fun A'' Q' N' q => name_K F₃ B.X B.T (by k_is) q) (khit rfl)
      · refine clause_no X₃ R₃.exc cl_nie_sax (fun A'' Q' N' q => name_K F₃ B.X B.T (by k_is) q) ?_
        exact clause_back B b hT0 k₁ F hL hl R c₂ hT2 R₂ c₃ hT3 R₃ F₃ cl_nie_nie (fun A'' Q' N' q => name_B F₃ B.X B.T (by k_is) boot_nie (by decide) q) (khit rfl)
    · refine MethodCall_ (ld F rfl (miss_thing B (Bs.of F) am'.handled T₁ mo_error ?_ fun h' tk e x => ?_))
      · match kd, q with
        | 0, _ => exact mn164_error
        | 1, _ => exact mn192_error
        | 2, _ => exact mn213_error
        | _ + 4, _ => trivial
      · refine att_land hfr' hF rfl k₁ F hL hb x fun h₃ T' tup rest R₃ F₃ c hT' => ?_
        have X₃ := (Bs.of F₃).in B
        refine clause_no X₃ R₃.exc cl_att_sax (fun A'' Q' N' q => name_K F₃ B.X B.T (by k_is) q) ?_
        refine clause_no X₃ R₃.exc cl_att_nie (fun A'' Q' N' q => name_B F₃ B.X B.T (by k_is) boot_nie (by decide) q) ?_
        exact att_end B R₃ F₃ c k₁ hl hT' fun h₅ t' c' => kmiss q h₅ t' c'
end
end Mine
end
section
open PySem PySem.W PySem.W.X PyProof.Rows PySem.Calls
namespace Mine
theorem fill13 : (fun (_ : OpenLaw) (_ : Params → Frag) => True) PySem.Challenge.rw_kl0193_01 hdK.heap_1 := by
  k_fill
  trivial
section
variable {prog : Program} {w : World} {mg mb : Str → Option Value} {A : Around} {E : Value → Shared → Prop} {s : Shared} {h h₀ : Heap} {t : Nat} {outer : List Env}
/-- x.name(), x a reader -/
theorem ev_rmeth0 (B : Base0 w mg mb h₀) {m : Str → Option Value} {cn : Str} {cs : Scope} {L f r d g : Addr} {cd : Value} {x name : Str} {v : Nat → Value} {p1 p2 pos : Pos} {Q : Value → Shared → Prop} (F : Fr h₀ L h m)
    (hm : m x = some (.ref r)) (hr : h.get? r = some (inst 417 d)) (hD : RD h d v)
    (hg : plainGet (hdK.heap_1 w.params) 417 name = true) (hf : findIn (hdK.heap_1 w.params) (.ref 417) name = some (some (.ref g))) (ht : isFn (hdK.heap_1 w.params) (.ref g) = true) (hkp : keepIn (hdK.heap_1 w.params) (.ref g) = true)
    (hn : ∀ k1 k2 k3 k4 t1 t2 t3 t4 v0 v1 v2 v3, getL name [⟨k1, .str "_cont_handler" t1, v0⟩, ⟨k2, .str "_dtd_handler" t2, v1⟩, ⟨k3, .str "_ent_handler" t3, v2⟩, ⟨k4, .str "_err_handler" t4, v3⟩] = some none)
    (k : wpAny (model prog w) A (call (.ref g) [.ref r]) Q E (St s h t))
    {pl : Sem Bool}
    (hev : eval (.Call (.Attribute (.Name x p1) name p2) [] [] pos) (envOf cn cs L f cd) = (do
      let ov ← eval (.Name x p1) (envOf cn cs L f cd)
      standAt p2.atName
      let (f', first) ← holding [ov] (getMethod ov name pl)
      callWith pos f' first (backTo pos (starEach [] (envOf cn cs L f cd))) []) := by rfl)
    (hk : cs.kind = .function := by rfl) (hx : (envOf cn cs L f cd).kindOf x = some .local := by rfl) (hdb : (x == ("__debug__" : Str)) = false := by decide) :
    wpAny (model prog w) A (eval (.Call (.Attribute (.Name x p1) name p2) [] [] pos) (envOf cn cs L f cd)) Q E (St s h t) := by
  obtain ⟨k1, k2, k3, k4, t1, t2, t3, t4, n, I⟩ := rd_inst hr hD
  refine MethodCall_ (ld F hm ?_ hk hx hdb) hev
  refine method_inst F B.X I hg hf ht (hn _ _ _ _ _ _ _ _ _ _ _ _) ?_
  exact callWith_K0 ((Bs.of F).in B) hkp k
theorem RD.stays {d : Addr} {v : Nat → Value} (x : RD h d v) {h' : Heap} (q : h.StaysIn h') : RD h' d v := by
  obtain ⟨k1, k2, k3, k4, t1, t2, t3, t4, n, x⟩ := x
  exact ⟨k1, k2, k3, k4, t1, t2, t3, t4, n, q _ _ x⟩
theorem lies_spec (B : Base0 w mg mb h₀) (b : Bs h₀ h) (am : Am A 440 1700) {r d : Addr} {v : Nat → Value} (hr : h.get? r = some (inst 417 d)) (hD : RD h d v) (hv : ∀ i, i < 4 → Nr (v i)) {Q : Value → Shared → Prop}
    (k : ∀ h' t' a n, h.StaysIn h' → h.get? a = none → h'.get? a = some (lstO #[v 0, v 1, v 2, v 3] n) → Q (.ref a) (St s h' t')) :
    wpAny (model prog w) A (call (.ref 442) [.ref r]) Q E (St s h t) := by
  refine wpAny_call (enter B b am (binds := [("reader", .ref r)]) (by k_is) (by k_is) (BindsTo.of_eq rfl) (locs rfl) (fun h₁ F k₁ => ?_))
  generalize h.objs.size = L at *
  have am' : Am (A.deeper (envOf "_law_lies" { kind := ScopeKind.function, names := [(Str.ofString "reader", NameKind.local)], isGenerator := false, isCoroutine := false } L 442 (.ref 441))) 441 1703 := am.deeper _
  generalize A.deeper _ = A' at *
  refine wpAny_execs_cons (wpAny_Return_some (List_ (spliced_more ?_)))
  refine ev_rmeth0 B F rfl (k₁ _ _ hr) (hD.stays k₁) (by k_is) (by k_is) (by k_is) (by k_is) (by intros; rfl) ?_
  refine Lf.use2 (lift am'.mono (get0_leaf ((Bs.of F).in B) (k₁ _ _ hr) (hD.stays k₁) (hv 0 (by decide)))) fun v0 h₂ t₂ k₂ e0 => spliced_more ?_
  have F₂ := F.keeps k₂
  have k12 := stays_trans k₁ k₂
  refine ev_rmeth0 B F₂ rfl (k12 _ _ hr) (hD.stays k12) (by k_is) (by k_is) (by k_is) (by k_is) (by intros; rfl) ?_
  refine Lf.use2 (lift am'.mono (get1_leaf ((Bs.of F₂).in B) (k12 _ _ hr) (hD.stays k12) (hv 1 (by decide)))) fun v1 h₃ t₃ k₃ e1 => spliced_more ?_
  have F₃ := F₂.keeps k₃
  have k13 := stays_trans k12 k₃
  refine ev_rmeth0 B F₃ rfl (k13 _ _ hr) (hD.stays k13) (by k_is) (by k_is) (by k_is) (by k_is) (by intros; rfl) ?_
  refine Lf.use2 (lift am'.mono (get2_leaf ((Bs.of F₃).in B) (k13 _ _ hr) (hD.stays k13) (hv 2 (by decide)))) fun v2 h₄ t₄ k₄ e2 => spliced_more ?_
  have F₄ := F₃.keeps k₄
  have k14 := stays_trans k13 k₄
  refine ev_rmeth0 B F₄ rfl (k14 _ _ hr) (hD.stays k14) (by k_is) (by k_is) (by k_is) (by k_is) (by intros; rfl) ?_
  refine Lf.use2 (lift am'.mono (get3_leaf ((Bs.of F₄).in B) (k14 _ _ hr) (hD.stays k14) (hv 3 (by decide)))) fun v3 h₅ t₅ k₅ e3 => spliced_none (newL ?_ (by simp))
  subst e0 e1 e2 e3
  have k15 := stays_trans k14 k₅
  exact k _ _ _ 0 (stays_trans k15 (stays_push _ _)) (none_of k15 (size_none _)) (Heap.get?_push_size _ rfl)
end
end Mine
end
section
open PySem PySem.W PySem.W.X PyProof.Rows PySem.Calls Builtin Builtin.ObjectAttr
namespace Mine
theorem fill14 : (fun (_ : OpenLaw) (_ : Params → Frag) => True) PySem.Challenge.rw_kl0193_01 hdK.heap_1 := by
  k_fill
  trivial
section
variable {prog : Program} {w : World} {mg mb : Str → Option Value} {A : Around} {E : Value → Shared → Prop} {s : Shared} {h h₀ : Heap} {t : Nat} {outer : List Env}
theorem osa_ex {K : Frag} {R : Result → Shared → Prop} {x C dx : Addr} {ox : Obj} {name : Str} {tk : Tok} {v : Value} {es es' : List DictEntry} {n n' : Nat} (X : K.In h)
    (I : InstAt h x ox C (some (dictOf es n))) (hd : ox.dict = some dx) (hp : plainOver K C = true) (ht : takerIn K C name = some none) (hh : hasDictIn K C = true)
    (hl : (getL name es).isSome = true)
    (e : (putL name (PyData.keyHash w.params name) (.str name t) v es, putN name es n) = (es', n')) (hz : es'.length ≤ 1000)
    (k : ∀ h', h'.get? dx = some (dictOf es' n') → Heap.SameBut dx h h' → R (.ok (.ret .none)) (St s h' (t + 1))) :
    codeAny (model prog w) A (.call (.builtin "object.__setattr__") ⟨[.ref x, .str name tk, v], []⟩) R (St s h t) := by
  refine osa_open (s := St s h t) X I hp ht fun b => ?_
  obtain ⟨cd, hc, hd'⟩ := any_some hh
  obtain ⟨hx, hcl, hn, D⟩ := I
  obtain ⟨oc, odi, oda, osl⟩ := ox
  dsimp only at hcl hd
  subst hcl hd
  obtain ⟨e1, e2⟩ := Prod.mk.inj e
  have D : h.get? dx = some (dictOf es n) := D
  have D' : (h.update dx (Obj.putName name (PyData.keyHash w.params name) (.str name t) v)).get? dx = some (dictOf es' n') := by
    rw [Heap.get?_update_self _ D (by rw [putName_dict]; rfl), putName_dict, e1, e2]
  refine wpAny_bind (wpAny_pure (wpAny_bind (wpAny_bind (wpAny_loadPart hx (wpAny_bind ((looks_clsIn X hc).here ?_))))))
  rw [hd']
  refine wpAny_pure (a := some dx) (wpAny_bind (wpAny_pure (wpAny_bind ?_)))
  unfold nsSet
  refine wpAny_bind (wpAny_bind (wpAny_askSetting (wpAny_pure (wpAny_bind (wpAny_mkText (wpAny_bind (wpAny_loadPart D ?_)))))))
  dsimp only
  have c : (!es.toArray.any (·.key.isStr name) && es.toArray.any (·.refKey)) = false := by
    rw [← Array.any_toList, ← Array.any_toList]
    unfold getL at hl
    split at hl
    · rename_i en he
      rw [List.any_eq_true.mpr ⟨en, List.mem_of_find?_eq_some he, List.find?_some he⟩]; rfl
    · split at hl
      · cases hl
      · rename_i z; rw [Bool.not_eq_true] at z; rw [z, Bool.and_false]
  rw [aRefKeyMayBeTheName_at, c]
  refine wpAny_updatePart D ?_
  refine wpAny_bind (wpAny_lookBehind D' (by exact pastItsLine_dict (by rw [List.size_toArray, sizeLine_eq]; omega)) ?_)
  exact wpAny_pure (k _ D' (Heap.SameBut.update ..))





set_option maxHeartbeats 1000000 in
theorem set0_spec (B : Base0 w mg mb h₀) (b : Bs h₀ h) (am : Am A 450 1800) {r d : Addr} {vf : Nat → Value} {v : Value} (hr : h.get? r = some (inst 417 d)) (hD : RD h d vf) {Q : Value → Shared → Prop}
    (k : ∀ h' t', Ex [d] h h' → RD h' d (fun j => if j = 0 then v else vf j) → Q .none (St s h' t')) :
    wpAny (model prog w) A (call (.ref 337) [.ref r, v]) Q E (St s h t) := by
  refine wpAny_call (enter B b am (binds := [("self", .ref r), ("handler", v)]) (by k_is) (by k_is) (BindsTo.of_eq rfl) (locs rfl) (fun h₁ F k₁ => ?_))
  obtain ⟨k1, k2, k3, k4, t1, t2, t3, t4, n, hD⟩ := hD.stays k₁
  have X : (hdK.heap_1 w.params).In h₁ := (Bs.of F).in B
  have I : InstAt h₁ r (inst 417 d) 417 (some (dictOf [⟨k1, .str "_cont_handler" t1, vf 0⟩, ⟨k2, .str "_dtd_handler" t2, vf 1⟩, ⟨k3, .str "_ent_handler" t3, vf 2⟩, ⟨k4, .str "_err_handler" t4, vf 3⟩] n)) := ⟨k₁ _ _ hr, rfl, rfl, hD⟩
  refine wpAny_execs_cons (plainObj_wpAny_Assign_Attribute (ld F rfl (ld F rfl ?_)))
  refine set_plain (s := St s h₁ _) X I (by k_is) (osa_ex X I rfl (by k_is) (by k_is) (by k_is) (by rfl) (es' := [⟨k1, .str "_cont_handler" t1, v⟩, ⟨k2, .str "_dtd_handler" t2, vf 1⟩, ⟨k3, .str "_ent_handler" t3, vf 2⟩, ⟨k4, .str "_err_handler" t4, vf 3⟩]) (n' := n) (by rfl) (by simp) fun h' e x => ?_)
  refine wpAny_execs_nil (k h' _ ((Ex.of_stays k₁).trans (Ex.sameBut x)) ⟨k1, k2, k3, k4, t1, t2, t3, t4, n, e⟩)

set_option maxHeartbeats 1000000 in
theorem set1_spec (B : Base0 w mg mb h₀) (b : Bs h₀ h) (am : Am A 450 1800) {r d : Addr} {vf : Nat → Value} {v : Value} (hr : h.get? r = some (inst 417 d)) (hD : RD h d vf) {Q : Value → Shared → Prop}
    (k : ∀ h' t', Ex [d] h h' → RD h' d (fun j => if j = 1 then v else vf j) → Q .none (St s h' t')) :
    wpAny (model prog w) A (call (.ref 351) [.ref r, v]) Q E (St s h t) := by
  refine wpAny_call (enter B b am (binds := [("self", .ref r), ("handler", v)]) (by k_is) (by k_is) (BindsTo.of_eq rfl) (locs rfl) (fun h₁ F k₁ => ?_))
  obtain ⟨k1, k2, k3, k4, t1, t2, t3, t4, n, hD⟩ := hD.stays k₁
  have X : (hdK.heap_1 w.params).In h₁ := (Bs.of F).in B
  have I : InstAt h₁ r (inst 417 d) 417 (some (dictOf [⟨k1, .str "_cont_handler" t1, vf 0⟩, ⟨k2, .str "_dtd_handler" t2, vf 1⟩, ⟨k3, .str "_ent_handler" t3, vf 2⟩, ⟨k4, .str "_err_handler" t4, vf 3⟩] n)) := ⟨k₁ _ _ hr, rfl, rfl, hD⟩
  refine wpAny_execs_cons (plainObj_wpAny_Assign_Attribute (ld F rfl (ld F rfl ?_)))
  refine set_plain (s := St s h₁ _) X I (by k_is) (osa_ex X I rfl (by k_is) (by k_is) (by k_is) (by rfl) (es' := [⟨k1, .str "_cont_handler" t1, vf 0⟩, ⟨k2, .str "_dtd_handler" t2, v⟩, ⟨k3, .str "_ent_handler" t3, vf 2⟩, ⟨k4, .str "_err_handler" t4, vf 3⟩]) (n' := n) (by rfl) (by simp) fun h' e x => ?_)
  refine wpAny_execs_nil (k h' _ ((Ex.of_stays k₁).trans (Ex.sameBut x)) ⟨k1, k2, k3, k4, t1, t2, t3, t4, n, e⟩)

set_option maxHeartbeats 1000000 in
theorem set2_spec (B : Base0 w mg mb h₀) (b : Bs h₀ h) (am : Am A 450 1800) {r d : Addr} {vf : Nat → Value} {v : Value} (hr : h.get? r = some (inst 417 d)) (hD : RD h d vf) {Q : Value → Shared → Prop}
    (k : ∀ h' t', Ex [d] h h' → RD h' d (fun j => if j = 2 then v else vf j) → Q .none (St s h' t')) :
    wpAny (model prog w) A (call (.ref 365) [.ref r, v]) Q E (St s h t) := by
  refine wpAny_call (enter B b am (binds := [("self", .ref r), ("resolver", v)]) (by k_is) (by k_is) (BindsTo.of_eq rfl) (locs rfl) (fun h₁ F k₁ => ?_))
  obtain ⟨k1, k2, k3, k4, t1, t2, t3, t4, n, hD⟩ := hD.stays k₁
  have X : (hdK.heap_1 w.params).In h₁ := (Bs.of F).in B
  have I : InstAt h₁ r (inst 417 d) 417 (some (dictOf [⟨k1, .str "_cont_handler" t1, vf 0⟩, ⟨k2, .str "_dtd_handler" t2, vf 1⟩, ⟨k3, .str "_ent_handler" t3, vf 2⟩, ⟨k4, .str "_err_handler" t4, vf 3⟩] n)) := ⟨k₁ _ _ hr, rfl, rfl, hD⟩
  refine wpAny_execs_cons (plainObj_wpAny_Assign_Attribute (ld F rfl (ld F rfl ?_)))
  refine set_plain (s := St s h₁ _) X I (by k_is) (osa_ex X I rfl (by k_is) (by k_is) (by k_is) (by rfl) (es' := [⟨k1, .str "_cont_handler" t1, vf 0⟩, ⟨k2, .str "_dtd_handler" t2, vf 1⟩, ⟨k3, .str "_ent_handler" t3, v⟩, ⟨k4, .str "_err_handler" t4, vf 3⟩]) (n' := n) (by rfl) (by simp) fun h' e x => ?_)
  refine wpAny_execs_nil (k h' _ ((Ex.of_stays k₁).trans (Ex.sameBut x)) ⟨k1, k2, k3, k4, t1, t2, t3, t4, n, e⟩)

set_option maxHeartbeats 1000000 in
theorem set3_spec (B : Base0 w mg mb h₀) (b : Bs h₀ h) (am : Am A 450 1800) {r d : Addr} {vf : Nat → Value} {v : Value} (hr : h.get? r = some (inst 417 d)) (hD : RD h d vf) {Q : Value → Shared → Prop}
    (k : ∀ h' t', Ex [d] h h' → RD h' d (fun j => if j = 3 then v else vf j) → Q .none (St s h' t')) :
    wpAny (model prog w) A (call (.ref 379) [.ref r, v]) Q E (St s h t) := by
  refine wpAny_call (enter B b am (binds := [("self", .ref r), ("handler", v)]) (by k_is) (by k_is) (BindsTo.of_eq rfl) (locs rfl) (fun h₁ F k₁ => ?_))
  obtain ⟨k1, k2, k3, k4, t1, t2, t3, t4, n, hD⟩ := hD.stays k₁
  have X : (hdK.heap_1 w.params).In h₁ := (Bs.of F).in B
  have I : InstAt h₁ r (inst 417 d) 417 (some (dictOf [⟨k1, .str "_cont_handler" t1, vf 0⟩, ⟨k2, .str "_dtd_handler" t2, vf 1⟩, ⟨k3, .str "_ent_handler" t3, vf 2⟩, ⟨k4, .str "_err_handler" t4, vf 3⟩] n)) := ⟨k₁ _ _ hr, rfl, rfl, hD⟩
  refine wpAny_execs_cons (plainObj_wpAny_Assign_Attribute (ld F rfl (ld F rfl ?_)))
  refine set_plain (s := St s h₁ _) X I (by k_is) (osa_ex X I rfl (by k_is) (by k_is) (by k_is) (by rfl) (es' := [⟨k1, .str "_cont_handler" t1, vf 0⟩, ⟨k2, .str "_dtd_handler" t2, vf 1⟩, ⟨k3, .str "_ent_handler" t3, vf 2⟩, ⟨k4, .str "_err_handler" t4, v⟩]) (n' := n) (by rfl) (by simp) fun h' e x => ?_)
  refine wpAny_execs_nil (k h' _ ((Ex.of_stays k₁).trans (Ex.sameBut x)) ⟨k1, k2, k3, k4, t1, t2, t3, t4, n, e⟩)

abbrev scSet : Scope := { kind := ScopeKind.function, names := [(Str.ofString "reader", NameKind.local), (Str.ofString "drawer", NameKind.local), (Str.ofString "thing", NameKind.local)], isGenerator := false, isCoroutine := false }
set_option maxHeartbeats 400000 in
theorem set_spec (B : Base0 w mg mb h₀) (b : Bs h₀ h) (am : Am A 440 1700) {r d : Addr} {vf : Nat → Value} {v : Value} {i : Nat} {iv : Int} {ti : Tok} (hiv : iv = (i : Int)) (hr : h.get? r = some (inst 417 d)) (hD : RD h d vf) (hi : i < 4) {Q : Value → Shared → Prop}
    (k : ∀ h' t', Ex [d] h h' → RD h' d (fun j => if j = i then v else vf j) → Q .none (St s h' t')) :
    wpAny (model prog w) A (call (.ref 449) [.ref r, .int iv ti, v]) Q E (St s h t) := by
  refine wpAny_call (enter B b am (binds := [("reader", .ref r), ("drawer", .int iv ti), ("thing", v)]) (by k_is) (by k_is) (BindsTo.of_eq rfl) (locs rfl) (fun h₁ F k₁ => ?_))
  have X : (hdK.heap_1 w.params).In h₁ := (Bs.of F).in B
  generalize h.objs.size = L at *
  have am' : Am (A.deeper (envOf "_law_set" scSet L 449 (.ref 448))) 441 1703 := am.deeper _
  generalize A.deeper _ = A' at *
  have k' : ∀ h' t', Ex [d] h₁ h' → RD h' d (fun j => if j = i then v else vf j) → Q .none (St s h' t') := fun h' t' x y => k h' t' ((Ex.of_stays k₁).trans x) y
  have four : (iv = 0 ∧ i = 0) ∨ (iv = 1 ∧ i = 1) ∨ (iv = 2 ∧ i = 2) ∨ (iv = 3 ∧ i = 3) := by omega
  clear hi hiv k
  rcases four with ⟨rfl, rfl⟩ | ⟨rfl, rfl⟩ | ⟨rfl, rfl⟩ | ⟨rfl, rfl⟩
  · refine wpAny_execs_cons (wpAny_If (wpAny_isTrue_Compare1 (ld F rfl (wpAny_Constant_int (eq_int (wpAny_truthy_bool ?_))))))
    rw [if_pos (by decide)]
    refine wpAny_execs_cons (wpAny_Return_some (ev_rmeth B F rfl (k₁ _ _ hr) (hD.stays k₁) (by k_is) (by k_is) (by k_is) (by k_is) (by intros; rfl) (spliced_more (ld F rfl (spliced_none ⟨X, ?_⟩)))))
    exact set0_spec B (Bs.of F) am'.mono (k₁ _ _ hr) (hD.stays k₁) k'
  · refine wpAny_execs_cons (wpAny_If (wpAny_isTrue_Compare1 (ld F rfl (wpAny_Constant_int (eq_int (wpAny_truthy_bool ?_))))))
    rw [if_neg (by decide)]
    refine wpAny_execs_nil ?_
    refine wpAny_execs_cons (wpAny_If (wpAny_isTrue_Compare1 (ld F rfl (wpAny_Constant_int (eq_int (wpAny_truthy_bool ?_))))))
    rw [if_pos (by decide)]
    refine wpAny_execs_cons (wpAny_Return_some (ev_rmeth B F rfl (k₁ _ _ hr) (hD.stays k₁) (by k_is) (by k_is) (by k_is) (by k_is) (by intros; rfl) (spliced_more (ld F rfl (spliced_none ⟨X, ?_⟩)))))
    exact set1_spec B (Bs.of F) am'.mono (k₁ _ _ hr) (hD.stays k₁) k'
  · refine wpAny_execs_cons (wpAny_If (wpAny_isTrue_Compare1 (ld F rfl (wpAny_Constant_int (eq_int (wpAny_truthy_bool ?_))))))
    rw [if_neg (by decide)]
    refine wpAny_execs_nil ?_
    refine wpAny_execs_cons (wpAny_If (wpAny_isTrue_Compare1 (ld F rfl (wpAny_Constant_int (eq_int (wpAny_truthy_bool ?_))))))
    rw [if_neg (by decide)]
    refine wpAny_execs_nil ?_
    refine wpAny_execs_cons (wpAny_If (wpAny_isTrue_Compare1 (ld F rfl (wpAny_Constant_int (eq_int (wpAny_truthy_bool ?_))))))
    rw [if_pos (by decide)]
    refine wpAny_execs_cons (wpAny_Return_some (ev_rmeth B F rfl (k₁ _ _ hr) (hD.stays k₁) (by k_is) (by k_is) (by k_is) (by k_is) (by intros; rfl) (spliced_more (ld F rfl (spliced_none ⟨X, ?_⟩)))))
    exact set2_spec B (Bs.of F) am'.mono (k₁ _ _ hr) (hD.stays k₁) k'
  · refine wpAny_execs_cons (wpAny_If (wpAny_isTrue_Compare1 (ld F rfl (wpAny_Constant_int (eq_int (wpAny_truthy_bool ?_))))))
    rw [if_neg (by decide)]
    refine wpAny_execs_nil ?_
    refine wpAny_execs_cons (wpAny_If (wpAny_isTrue_Compare1 (ld F rfl (wpAny_Constant_int (eq_int (wpAny_truthy_bool ?_))))))
    rw [if_neg (by decide)]
    refine wpAny_execs_nil ?_
    refine wpAny_execs_cons (wpAny_If (wpAny_isTrue_Compare1 (ld F rfl (wpAny_Constant_int (eq_int (wpAny_truthy_bool ?_))))))
    rw [if_neg (by decide)]
    refine wpAny_execs_nil ?_
    refine wpAny_execs_cons (wpAny_Return_some (ev_rmeth B F rfl (k₁ _ _ hr) (hD.stays k₁) (by k_is) (by k_is) (by k_is) (by k_is) (by intros; rfl) (spliced_more (ld F rfl (spliced_none ⟨X, ?_⟩)))))
    exact set3_spec B (Bs.of F) am'.mono (k₁ _ _ hr) (hD.stays k₁) k'
end
end Mine
end
section
open PySem PySem.W PySem.W.X PyProof.Rows PySem.Calls
namespace Mine
theorem fill15 : (fun (_ : OpenLaw) (_ : Params → Frag) => True) PySem.Challenge.rw_kl0193_01 hdK.heap_1 := by
  k_fill
  trivial
theorem fmod_lo (a : Int) {b : Int} (hb : 0 < b) : 0 ≤ a.fmod b := Int.fmod_nonneg_of_pos a hb
theorem fmod_hi (a : Int) {b : Int} (hb : 0 < b) : a.fmod b < b := Int.fmod_lt_of_pos a hb
section
variable {prog : Program} {w : World} {mg mb : Str → Option Value} {A : Around} {E : Value → Shared → Prop} {s : Shared} {h h₀ : Heap} {t : Nat} {outer : List Env}
theorem kS {env : Env} {x : Str} {k : Nat} {pos : Pos} {Q : Value → Shared → Prop} (q : Q (.str x t) (St s h (t + 1))) : wpAny (model prog w) A (eval (.Constant (.str x) k pos) env) Q E (St s h t) := Constant_str q
theorem kI {env : Env} {x : Int} {k : Nat} {pos : Pos} {Q : Value → Shared → Prop} (q : Q (.int x t) (St s h (t + 1))) : wpAny (model prog w) A (eval (.Constant (.int x) k pos) env) Q E (St s h t) := wpAny_Constant_int q
theorem modS {a b : Int} {ta tb : Tok} {Q : Value → Shared → Prop} (hb : 0 < b) (q : ∀ r, r = a.fmod b → 0 ≤ r → r < b → Q (.int r t) (St s h (t + 1))) : wpAny (model prog w) A (binaryOp .Mod (.int a ta) (.int b tb)) Q E (St s h t) :=
  mod_int' (by omega) (q _ rfl (fmod_lo a hb) (fmod_hi a hb))
theorem divS {a b : Int} {ta tb : Tok} {Q : Value → Shared → Prop} (hb : 0 < b) (hb2 : b < 1000000) (q : ∀ r, r = a.fdiv b → Q (.int r t) (St s h (t + 1))) : wpAny (model prog w) A (binaryOp .FloorDiv (.int a ta) (.int b tb)) Q E (St s h t) :=
  floordiv_int (by omega) (q _ rfl) (.inl (PyProof.noPylong_small (by omega)))
/-- a text of a row of texts -/
theorem text_at {xs : List Value} {N : Nat} (hx : ∀ v ∈ xs, ∃ x tx, v = .str x tx ∧ x.length ≤ N) {i : Nat} (hi : i < xs.length) : ∃ x tx, xs[i]? = some (.str x tx) ∧ x.length ≤ N := by
  obtain ⟨x, tx, e, hl⟩ := hx _ (List.getElem_mem hi)
  exact ⟨x, tx, by rw [List.getElem?_eq_getElem hi, e], hl⟩
theorem words_spec (B : Base0 w mg mb h₀) (b : Bs h₀ h) (am : Am A 440 1700) {i : Int} {ti : Tok} {Q : Value → Shared → Prop}
    (k : ∀ h' t' x tx, h.StaysIn h' → x.length ≤ 200 → Q (.str x tx) (St s h' t')) :
    wpAny (model prog w) A (call (.ref 428) [.int i ti]) Q E (St s h t) := by
  refine wpAny_call (enter B b am (binds := [("number", .int i ti)]) (by k_is) (by k_is) (BindsTo.of_eq rfl) (locs rfl) (fun h₁ F k₁ => ?_))
  generalize hLe : h.objs.size = L at *
  have hLn : h.get? L = none := by rw [← hLe]; exact size_none h
  generalize A.deeper _ = A' at *
  generalize t + _ = t₁
  refine asg ?_
  refine List_ ?_
  refine spliced_more (kS ?_)
  refine spliced_more (kS ?_)
  refine spliced_more (kS ?_)
  refine spliced_more (kS ?_)
  refine spliced_more (kS ?_)
  refine spliced_more (kS ?_)
  refine spliced_more (kS ?_)
  refine spliced_more (kS ?_)
  refine spliced_none ?_
  have hx : ∀ v ∈ ([.str "" t₁, .str "a" (t₁ + 1), .str "%s" (t₁ + 1 + 1), .str "'" (t₁ + 1 + 1 + 1), .str "%" (t₁ + 1 + 1 + 1 + 1), .str "\n" (t₁ + 1 + 1 + 1 + 1 + 1), .str "http://xml.org/sax/features/namespaces" (t₁ + 1 + 1 + 1 + 1 + 1 + 1), .str "http://xml.org/sax/properties/lexical-handler" (t₁ + 1 + 1 + 1 + 1 + 1 + 1 + 1)] : List Value), ∃ x tx, v = .str x tx ∧ x.length ≤ 60 := by
    intro v hv
    simp only [List.mem_cons, List.not_mem_nil, or_false] at hv
    rcases hv with rfl | rfl | rfl | rfl | rfl | rfl | rfl | rfl <;> exact ⟨_, _, rfl, by decide⟩
  have hlen : ([.str "" t₁, .str "a" (t₁ + 1), .str "%s" (t₁ + 1 + 1), .str "'" (t₁ + 1 + 1 + 1), .str "%" (t₁ + 1 + 1 + 1 + 1), .str "\n" (t₁ + 1 + 1 + 1 + 1 + 1), .str "http://xml.org/sax/features/namespaces" (t₁ + 1 + 1 + 1 + 1 + 1 + 1), .str "http://xml.org/sax/properties/lexical-handler" (t₁ + 1 + 1 + 1 + 1 + 1 + 1 + 1)] : List Value).length = 8 := rfl
  revert hx hlen
  generalize ([.str "" t₁, .str "a" (t₁ + 1), .str "%s" (t₁ + 1 + 1), .str "'" (t₁ + 1 + 1 + 1), .str "%" (t₁ + 1 + 1 + 1 + 1), .str "\n" (t₁ + 1 + 1 + 1 + 1 + 1), .str "http://xml.org/sax/features/namespaces" (t₁ + 1 + 1 + 1 + 1 + 1 + 1), .str "http://xml.org/sax/properties/lexical-handler" (t₁ + 1 + 1 + 1 + 1 + 1 + 1 + 1)] : List Value) = xs
  intro hx hlen
  refine newL ?_ (by omega)
  have ha := Heap.get?_push_size h₁ (o := lstO xs.toArray 0) rfl
  have hst := stays_push h₁ (lstO xs.toArray 0)
  have F₂ := F.keeps hst
  have hn0 := size_none h₁
  generalize h₁.push (lstO xs.toArray 0) = h₂ at *
  have haL : h₁.objs.size ≠ L := fr_ne F hn0
  refine stE F₂ (fun h₃ F₃ x₃ => ?_)
  have hn1 := none_of F.keep hn0
  generalize h₁.objs.size = a at *
  have ha3 := x₃ _ _ (by simpa using haL) ha
  have kk : h.StaysIn h₃ := fun b o q => x₃ b o (by simpa using ne_of q hLn) (hst _ _ (k₁ _ _ q))
  refine wpAny_execs_cons (wpAny_Return_some ?_)
  refine wpAny_BinOp (wpAny_BinOp ?_)
  refine Subscript_ (ld F₃ rfl ?_)
  refine wpAny_BinOp (ld F₃ rfl (kI (modS (by decide) fun i0 _ l0 u0 => ?_)))
  obtain ⟨x0, tx0, q0, n0⟩ := text_at hx (i := i0.toNat) (by omega)
  refine item_list (items := xs.toArray) ⟨_, ha3, rfl, _, rfl⟩ l0 (by omega) (by simpa using q0) ?_
  refine Subscript_ (ld F₃ rfl ?_)
  refine wpAny_BinOp (wpAny_BinOp (ld F₃ rfl (kI (divS (by decide) (by decide) fun d1 _ => kI (modS (by decide) fun i1 _ l1 u1 => ?_)))))
  obtain ⟨x1, tx1, q1, n1⟩ := text_at hx (i := i1.toNat) (by omega)
  refine item_list (items := xs.toArray) ⟨_, ha3, rfl, _, rfl⟩ l1 (by omega) (by simpa using q1) ?_
  refine add_str (fun ta ka => ?_) (by rw [sizeLine_eq]; omega)
  refine Subscript_ (ld F₃ rfl ?_)
  refine wpAny_BinOp (wpAny_BinOp (ld F₃ rfl (kI (divS (by decide) (by decide) fun d2 _ => kI (modS (by decide) fun i2 _ l2 u2 => ?_)))))
  obtain ⟨x2, tx2, q2, n2⟩ := text_at hx (i := i2.toNat) (by omega)
  refine item_list (items := xs.toArray) ⟨_, ha3, rfl, _, rfl⟩ l2 (by omega) (by simpa using q2) ?_
  have n01 : (x0 ++ x1).length = x0.length + x1.length := strLen_append _ _
  refine add_str (fun tb kb => ?_) (by rw [sizeLine_eq]; omega)
  exact k h₃ kb _ _ kk (by rw [strLen_append]; omega)
end
end Mine
end
section
open PySem PySem.W PySem.W.X PyProof.Rows PySem.Calls
namespace Mine
theorem fill16 : (fun (_ : OpenLaw) (_ : Params → Frag) => True) PySem.Challenge.rw_kl0193_01 hdK.heap_1 := by
  k_fill
  trivial
section
variable {prog : Program} {w : World} {mg mb : Str → Option Value} {h₀ : Heap}
/-- a def of the text with cells is entered -/
theorem enterC {A : Around} {s : Shared} {h : Heap} {t d u : Nat} {R : Result → Shared → Prop} {name qual : Str} {params : Arguments} {body : List Stmt} {scope : Scope} {dV kV doc pm cdv ct oc : Value} {an od : Option Addr} {osl : Array (Option Value)} {f : Addr} {vals : List Value} {binds : List (Str × Value)}
    (B : Base0 w mg mb h₀) (b : Bs h₀ h) (a : Am A d u)
    (ho : (hdK.heap_1 w.params).lookup f = some ⟨oc, od, .func (fnOf name qual params body scope dV kV doc pm an cdv ct), osl⟩) (hcd : codeIn (hdK.heap_1 w.params) cdv qual = true)
    (hbind : bindArgs (fnOf name qual params body scope dV kV doc pm an cdv ct) ⟨vals, []⟩ = pure binds)
    (hloc : ∀ L, ∀ x ∈ binds, scope.names.lookup x.1 = some .local ∨ (scope.names.lookup x.1 = some .cell ∧ ((cellsFrom (L + 1) scope.names []).lookup x.1).isSome = true))
    (k : ∀ h₁ t₁, Fr h₀ h.objs.size h₁ (bindL (envOfC qual scope h.objs.size f cdv).kindOf binds fun _ => none) → h.StaysIn h₁ →
      (∀ n c, (cellsFrom (h.objs.size + 1) scope.names []).lookup n = some c → h₁.IsCell c (bindC (envOfC qual scope h.objs.size f cdv).kindOf binds (fun _ => none) n)) →
      wpAny (model prog w) (A.deeper (envOfC qual scope h.objs.size f cdv)) (execs body (envOfC qual scope h.objs.size f cdv))
        (fun fl s' => R (.ok (.ret (match fl with | .ret v => v | _ => .none))) s')
        (fun e s' => wpAny (model prog w) (A.deeper (envOfC qual scope h.objs.size f cdv)) (leaving (envOfC qual scope h.objs.size f cdv) e) (fun _ s'' => R (.error e) s'') (fun e' s'' => R (.error e') s'') s')
        (St s h₁ t₁))
    (hd : d < 1000 := by decide)
    (hco : scope.isCoroutine = false := by rfl) (hgen : scope.isGenerator = false := by rfl) (hk : scope.kind = .function := by rfl) : codeAny (model prog w) A (.call (.ref f) ⟨vals, []⟩) R (St s h t) := by
  have X := b.in B
  refine codeAny_call_cells (fd := fnOf name qual params body scope dV kV doc pm an cdv ct) (body := body) (binds := binds) (a.lt hd) (X _ _ ho) rfl (b.lim B) (codeRec_of X hcd) rfl hbind rfl (hloc _) (fun s₁ x => ?_) hco hgen hk
  obtain ⟨⟨⟨h₁, t₁, rfl⟩, hns, hk₁, _⟩, hc, _, _⟩ := x
  exact k h₁ t₁ ⟨hns, stays_trans b.keep hk₁, b.size⟩ hk₁ hc
end
section
variable {prog : Program} {w : World} {mg mb : Str → Option Value} {A : Around} {E : Value → Shared → Prop} {s : Shared} {h h₀ : Heap} {t : Nat}
/-- a name of the frame's is set, cells or not -/
theorem stX {m : Str → Option Value} {cn : Str} {cs : Scope} {cl : List (Str × Addr)} {L f : Addr} {cd : Value} {x : Str} {v : Value} {Q : Unit → Shared → Prop} (F : Fr h₀ L h m)
    (k : ∀ h', Fr h₀ L h' (fun y => if y = x then some v else m y) → Ex [L] h h' → Q () (St s h' (t + 1)))
    (hk : cs.kind = .function := by rfl) (hl : (envX cn cs L f cd cl).kindOf x = some .local := by rfl) :
    wpAny (model prog w) A (storeName (envX cn cs L f cd cl) x v) Q E (St s h t) :=
  PySem.wpAny_storeName_local hl F.ns (fun h' hn hs => k h' (F.set hn hs) (Ex.sameBut hs))
    (by show (cs.kind == .class || (cs.kind == .module && L != mainGlobals)) = false; rw [hk]; rfl)
theorem asgX {cn : Str} {cs : Scope} {cl : List (Str × Addr)} {L f : Addr} {cd : Value} {x : Str} {px pos : Pos} {e : Expr} {rest : List Stmt} {Q : Flow → Shared → Prop}
    (k : wpAny (model prog w) A (eval e (envX cn cs L f cd cl)) (fun v s₁ => wpAny (model prog w) A (storeName (envX cn cs L f cd cl) x v) (fun _ s₂ => wpAny (model prog w) A (execs rest (envX cn cs L f cd cl)) Q E s₂) E s₁) E (St s h t))
    (hs : swapsWith e (some (.Name x px)) pos.line (envX cn cs L f cd cl) = pure false := by rfl) :
    wpAny (model prog w) A (execs (.Assign [.Name x px] e pos :: rest) (envX cn cs L f cd cl)) Q E (St s h t) :=
  wpAny_execs_cons (wpAny_Assign_Name (wpAny_mono k (fun _ _ k₁ => wpAny_mono k₁ (fun _ _ k₂ => k₂) fun _ _ x => x) fun _ _ x => x) hs)
theorem ldX {m : Str → Option Value} {cn : Str} {cs : Scope} {cl : List (Str × Addr)} {L f : Addr} {cd : Value} {x : Str} {pos : Pos} {v : Value} {Q : Value → Shared → Prop} (F : Fr h₀ L h m) (hv : m x = some v) (q : Q v (St s h t))
    (hk : cs.kind = .function := by rfl) (hx : (envX cn cs L f cd cl).kindOf x = some .local := by rfl) (hd : (x == ("__debug__" : Str)) = false := by decide) :
    wpAny (model prog w) A (eval (.Name x pos) (envX cn cs L f cd cl)) Q E (St s h t) := nameX_L F hv q hk hx hd
theorem ldC {cn : Str} {cs : Scope} {cl : List (Str × Addr)} {L f : Addr} {cd : Value} {x : Str} {c : Addr} {pos : Pos} {v : Value} {Q : Value → Shared → Prop} (hc : cl.lookup x = some c) (hv : h.IsCell c (some v)) (q : Q v (St s h t))
    (hk : cs.kind = .function := by rfl) (hx : (envX cn cs L f cd cl).kindOf x = some .cell := by rfl) (hd : (x == ("__debug__" : Str)) = false := by decide) :
    wpAny (model prog w) A (eval (.Name x pos) (envX cn cs L f cd cl)) Q E (St s h t) := wpAny_Name (wpAny_loadName_cell hk hx hc hv q) hd
end
end Mine
end
section
open PySem PySem.W PySem.W.X PyProof.Rows PySem.Calls
namespace Mine
theorem fill17 : (fun (_ : OpenLaw) (_ : Params → Frag) => True) PySem.Challenge.rw_kl0193_01 hdK.heap_1 := by
  k_fill
  trivial
/-- a reader: its object, its dict, its row of numbers, the numbers -/
structure Rd where
  r : Addr
  d : Addr
  q : Addr
  ix : Nat → Nat
def RdF (h : Heap) (ts : List Value) (x : Rd) : Prop := h.get? x.r = some (inst 417 x.d) ∧ RD h x.d (fun i => ts.getD (x.ix i) .none) ∧ (∀ i, i < 4 → x.ix i < ts.length) ∧ ∃ us n, h.get? x.q = some (lstO us.toArray n) ∧ IntsAre us [(x.ix 0 : Int), (x.ix 1 : Int), (x.ix 2 : Int), (x.ix 3 : Int)]
theorem RdF.stays {h h' : Heap} {ts : List Value} {x : Rd} (q : RdF h ts x) (k : h.StaysIn h') : RdF h' ts x := by
  obtain ⟨a, b, c, us, n, e, f⟩ := q
  exact ⟨k _ _ a, b.stays k, c, us, n, k _ _ e, f⟩
theorem paired_ints {f : Value → Int} : ∀ {vs ys : List Value}, Paired (fun v y => ∃ u, y = Value.int (f v) u) vs ys → IntsAre ys (vs.map f)
  | _, _, .nil => .nil
  | _, _, .cons ⟨u, e⟩ r => by subst e; exact .cons _ _ (paired_ints r)
section
variable {prog : Program} {w : World} {mg mb : Str → Option Value} {A : Around} {E : Value → Shared → Prop} {s : Shared} {h h₀ : Heap} {t : Nat}
theorem ev_range_lenX (B : Base0 w mg mb h₀) {m : Str → Option Value} {cn : Str} {cs : Scope} {cl : List (Str × Addr)} {L f : Addr} {cd : Value} {x : Str} {a n : Nat} {xs : List Value} {p1 p2 p3 p4 p5 : Pos} {Q : Value → Shared → Prop}
    (F : Fr h₀ L h m) (hm : ∀ Q' : Value → Shared → Prop, Q' (.ref a) (St s h t) → wpAny (model prog w) A (eval (.Name x p3) (envX cn cs L f cd cl)) Q' E (St s h t)) (ha : h.get? a = some (lstO xs.toArray n)) (hn : xs.length ≤ 100000)
    (k : ∀ r h₁ t₁, h.StaysIn h₁ → (∃ u1 u2 u3, IsRange h₁ r 0 xs.length 1 u1 u2 u3) → Q (.ref r) (St s h₁ t₁))
    (hk : cs.kind = .function := by rfl)
    (hr : (envX cn cs L f cd cl).kindOf "range" = some .globalImplicit := by rfl) (hl : (envX cn cs L f cd cl).kindOf "len" = some .globalImplicit := by rfl) :
    wpAny (model prog w) A (eval (.Call (.Name "range" p1) [.Call (.Name "len" p2) [.Name x p3] [] p4] [] p5) (envX cn cs L f cd cl)) Q E (St s h t) := by
  refine Call_ (nameX_B F B.X B.T (by k_is) PyProof.Rows.boot_range (by decide) ?_ hk hr (by decide))
  refine PySem.callWith_type1 (Call_ (nameX_B F B.X B.T (by k_is) boot_len (by decide) ?_ hk hl (by decide)))
  refine PySem.callWith_builtin1 (hm _ ?_)
  refine len_list (items := xs.toArray) ⟨_, ha, rfl, _, rfl⟩ (by simp; omega) (call_range_1 (k _ _ _ (stays_push _ _) ?_))
  rw [show ((xs.length : Nat) : Int) = ((xs.toArray.size : Nat) : Int) by simp]
  exact ⟨_, _, _, IsRange.new _ _ _ _ _ _ _⟩
/-- xs[i], the names told -/
theorem ev_itemX {env : Env} {x y : Str} {a n : Nat} {xs : List Value} {i : Int} {u : Tok} {v : Value} {p1 p2 p3 : Pos} {Q : Value → Shared → Prop}
    (hm : ∀ Q' : Value → Shared → Prop, Q' (.ref a) (St s h t) → wpAny (model prog w) A (eval (.Name x p1) env) Q' E (St s h t)) (ha : h.get? a = some (lstO xs.toArray n))
    (hi : ∀ Q' : Value → Shared → Prop, Q' (.int i u) (St s h t) → wpAny (model prog w) A (eval (.Name y p2) env) Q' E (St s h t)) (h0 : 0 ≤ i) (h1 : i < 2 ^ 63) (hv : xs[i.toNat]? = some v)
    (k : Q v (St s h t)) : wpAny (model prog w) A (eval (.Subscript (.Name x p1) (.Name y p2) p3) env) Q E (St s h t) := by
  refine Subscript_ (hm _ (hi _ ?_))
  exact item_list (items := xs.toArray) (x := v) ⟨_, ha, rfl, _, rfl⟩ h0 h1 (by simpa using hv) k
abbrev scStill : Scope := { kind := ScopeKind.function, names := [(Str.ofString "readers", NameKind.local), (Str.ofString "drawers", NameKind.local), (Str.ofString "things", NameKind.cell), (Str.ofString "k", NameKind.local), (Str.ofString "range", NameKind.globalImplicit), (Str.ofString "len", NameKind.globalImplicit), (Str.ofString "_law_lies", NameKind.globalImplicit)], isGenerator := false, isCoroutine := false, more := [(Str.ofString "fast", Const.str "readers"), (Str.ofString "fast", Const.str "drawers"), (Str.ofString "fast", Const.str "things"), (Str.ofString "fast", Const.str "k"), (Str.ofString "fast", Const.str "thing")] }
theorem still_spec (B : Base0 w mg mb h₀) (b : Bs h₀ h) (am : Am A 390 1400) {aR aD aT nR nD nT : Nat} {rs : List Rd} {ts : List Value} (hR : h.get? aR = some (lstO (rs.map fun x => .ref x.r).toArray nR)) (hD : h.get? aD = some (lstO (rs.map fun x => .ref x.q).toArray nD)) (hT : h.get? aT = some (lstO ts.toArray nT))
    (hrs : rs.length ≤ 1000) (hts : ts.length ≤ 1000) (hx : ∀ x ∈ rs, RdF h ts x) (hob : ∀ v ∈ ts, Ob h v) (hnd : ∀ i j, i < ts.length → j < ts.length → ts[i]? = ts[j]? → i = j) {Q : Value → Shared → Prop}
    (k : ∀ h' t', h.StaysIn h' → Q (.bool true) (St s h' t')) :
    wpAny (model prog w) A (call (.ref 461) [.ref aR, .ref aD, .ref aT]) Q E (St s h t) := by
  refine wpAny_call (enterC B b am (binds := [("readers", .ref aR), ("drawers", .ref aD), ("things", .ref aT)]) (by k_is) (by k_is) rfl ?_ (fun h₁ t₁ F k₁ hc => ?_))
  · intro L x hx
    simp only [List.mem_cons, List.not_mem_nil, or_false] at hx
    rcases hx with rfl | rfl | rfl
    · exact .inl rfl
    · exact .inl rfl
    · exact .inr ⟨rfl, rfl⟩
  have hLn := size_none h
  have hcn : h.get? (h.objs.size + 1) = none := Heap.get?_none_of_le (by omega)
  have hc0 : h₁.IsCell (h.objs.size + 1) (some (.ref aT)) := hc "things" _ rfl
  have hcL : h.objs.size + 1 ≠ h.objs.size := by omega
  have hF : Fr h₀ h.objs.size h₁ (fun y => if y = "drawers" then some (.ref aD) else if y = "readers" then some (.ref aR) else none) := F
  clear hc F
  generalize h.objs.size = L at *
  refine wpAny_mono ?_ (fun _ _ x => x) (fun _ _ (x : False) => x.elim)
  change wpAny (model prog w) (A.deeper (envX "_law_still" scStill L 461 (.ref 460) (cellsFrom (L + 1) scStill.names []))) (execs _ (envX "_law_still" scStill L 461 (.ref 460) (cellsFrom (L + 1) scStill.names []))) _ _ _
  generalize L + 1 = c at *
  have am' : Am (A.deeper (envX "_law_still" scStill L 461 (.ref 460) (cellsFrom c scStill.names []))) 391 1403 := am.deeper _
  generalize A.deeper _ = A' at *
  refine wpAny_execs_cons (for_range (n := rs.length) (by omega) am'.handled
    (fun I i h' => ∃ m, Fr h₀ L h' m ∧ m "readers" = some (.ref aR) ∧ m "drawers" = some (.ref aD) ∧ h₁.get? I = none ∧ Ex [I, L] h₁ h') ?_ ?_ ?_ ?_)
  · intro Qe hQe
    refine ev_range_lenX B hF (a := aR) (xs := rs.map fun x => .ref x.r) (fun Q' q => ldX hF rfl q) (k₁ _ _ hR) (by simp; omega) (fun r h' t' k' R => hQe r h' t' k' (by rw [List.length_map] at R; exact R))
  · intro h₂ I k₂ hI
    exact ⟨_, hF.keeps k₂, rfl, rfl, hI, Ex.of_stays k₂⟩
  · rintro I i u h' h₂ t₂ hi ⟨m, F', m1, m2, hI0, e⟩ e2 ⟨oI, hoI⟩
    have hIL := fr_ne hF hI0
    have F₂ : Fr h₀ L h₂ m := fr_ex F' e2 (by simpa using Ne.symm hIL) (by simpa using none_of hF.keep hI0)
    refine stX F₂ (fun h₃ F₃ e3 => ?_)
    have e13 : Ex [I, L] h₁ h₃ := e.trans (e2.two e3)
    have ko : h.StaysIn h₃ := fun b o q => e13 b o (by
      simp only [List.mem_cons, List.not_mem_nil, or_false, not_or]
      exact ⟨ne_of (k₁ _ _ q) hI0, ne_of q hLn⟩) (k₁ _ _ q)
    have hIc : c ≠ I := by
      obtain ⟨o, ho, _⟩ := hc0
      exact ne_of ho hI0
    have hc3 : h₃.IsCell c (some (.ref aT)) := by
      obtain ⟨o, ho, hd⟩ := hc0
      exact ⟨o, e13 _ _ (by simpa using ⟨hIc, hcL⟩) ho, hd⟩
    have hI3 : h₃.get? I = h₂.get? I := by rw [hoI]; exact e3 I _ (by simpa using hIL) hoI
    obtain ⟨x, hxi⟩ : ∃ x, rs[i]? = some x := ⟨rs[i], List.getElem?_eq_getElem hi⟩
    obtain ⟨hr, hD4, hix, us, nq, hq, hus⟩ := (hx x (List.mem_of_getElem? hxi)).stays ko
    have hnr : ∀ j, j < 4 → Nr (ts.getD (x.ix j) .none) := fun j hj => by
      have hm : ts.getD (x.ix j) .none ∈ ts := by
        rw [List.getD_eq_getElem?_getD, List.getElem?_eq_getElem (hix j hj)]
        exact List.getElem_mem _
      rcases hob _ hm with z | ⟨a, o, z, _⟩
      · exact .inl z
      · exact .inr ⟨a, z⟩
    have hidx : ∀ j, j < 4 → idxV ts (ts.getD (x.ix j) .none) = (x.ix j : Int) := fun j hj => by
      have hj' := hix j hj
      have z : ts.getD (x.ix j) .none = ts[x.ix j] := by rw [List.getD_eq_getElem?_getD, List.getElem?_eq_getElem hj']; rfl
      rw [z]
      refine idxV_at hj' rfl fun l hl ee => ?_
      have := hnd l (x.ix j) (by omega) hj' (by rw [ee, List.getElem?_eq_getElem hj'])
      omega
    refine wpAny_execs_cons (wpAny_If (wpAny_isTrue_Compare1 ?_))
    refine wpAny_ListComp_free (cl := [("things", c)]) (fun _ => true) (fun v y => ∃ u, y = Value.int (idxV ts v) u) rfl (by decide) rfl (by decide) rfl ?_
    refine Call_ (nameX_K F₃ B.X B.T (by k_is) (callWith_K ((Bs.of F₃).in B) (by k_is) (spliced_more ?_)))
    refine ev_itemX (xs := rs.map fun x => .ref x.r) (fun Q' q => ldX F₃ m1 q) (ko _ _ hR) (fun Q' q => ldX F₃ rfl q) (by omega) (by omega) (v := .ref x.r) (by simp [hxi]) ?_
    refine spliced_none ⟨(Bs.of F₃).in B, ?_⟩
    refine lies_spec B (Bs.of F₃) am'.mono hr hD4 hnr fun h₄ t₄ a₄ n₄ k₄ ha₄ hl₄ => ?_
    replace hl₄ : h₄.get? a₄ = some (lstO #[ts.getD (x.ix 0) .none, ts.getD (x.ix 1) .none, ts.getD (x.ix 2) .none, ts.getD (x.ix 3) .none] n₄) := hl₄
    revert hl₄
    generalize hE : (#[ts.getD (x.ix 0) .none, ts.getD (x.ix 1) .none, ts.getD (x.ix 2) .none, ts.getD (x.ix 3) .none] : Array Value) = items
    intro hl₄
    refine wpAny_pyIter_list (items := items) ⟨_, hl₄, rfl, _, rfl⟩ ?_
    have hs4 : items.size = 4 := by rw [← hE]; rfl
    have hne : a₄ ≠ h₄.objs.size := ne_of hl₄ (size_none _)
    have hI5 := size_none h₄
    have h4I : h₁.get? h₄.objs.size = none := by
      cases z : h₁.get? h₄.objs.size with
      | none => rfl
      | some o =>
        by_cases zI : h₄.objs.size = I
        · rw [zI, hI0] at z; cases z
        by_cases zL : h₄.objs.size = L
        · obtain ⟨o', ho'⟩ := fr_live (F₃.keeps k₄)
          rw [← zL, hI5] at ho'; cases ho'
        have := k₄ _ _ (e13 _ _ (by simpa using ⟨zI, zL⟩) z)
        rw [hI5] at this; cases this
    have kp := stays_push h₄ { cls := .type "list_iterator", data := .fields #[.ref a₄, .int 0 0] }
    have hit := Heap.get?_push_size h₄ (o := { cls := .type "list_iterator", data := .fields #[.ref a₄, .int 0 0] }) rfl
    have hsz : h₄.objs.size < (h₄.push { cls := .type "list_iterator", data := .fields #[.ref a₄, .int 0 0] }).objs.size := Heap.lt_size hit
    refine ⟨h₄.objs.size, [h₄.objs.size, a₄], [h₄.objs.size], items.size, fun i v => items[i]? = some v, fun i h => h.IsListIter h₄.objs.size a₄ i ∧ h.IsList a₄ items, rfl,
      Walks.list am'.handled _ a₄ hne _, by rw [sizeLine_eq]; omega, ⟨⟨_, hit, rfl, rfl⟩, ⟨_, kp _ _ hl₄, rfl, _, rfl⟩⟩, ?_, ⟨?_, ?_⟩, ?_⟩
    · intro b hb
      rcases List.mem_cons.mp hb with rfl | hb
      · exact hsz
      · rw [List.mem_singleton.mp hb]; exact Heap.lt_size (kp _ _ hl₄)
    · intro C j v s₅ m₅ E' hC hP hn hm hk htk
      exact wpAny_pure ⟨rfl, s₅.heap, s₅.toks, rfl, fun _ _ e => e⟩
    · intro C j v s₅ m₅ E' hC hP _ hn hm hk htk
      have k45 : h₄.StaysIn s₅.heap := fun b o q => hk b o (by simpa using ne_of q hI5) (kp _ _ q)
      have k5 : h.StaysIn s₅.heap := stays_trans ko (stays_trans k₄ k45)
      have k05 : h₀.StaysIn s₅.heap := stays_trans F₃.keep (stays_trans k₄ k45)
      have b5 : Bs h₀ s₅.heap := ⟨k05, by
        have q1 := (Bs.of (F₃.keeps k₄)).size
        have q2 : C < s₅.heap.objs.size := by
          obtain ⟨o, _, _, ho, _⟩ := hn
          exact Heap.lt_size ho
        have q3 : (h₄.push { cls := .type "list_iterator", data := .fields #[.ref a₄, .int 0 0] }).objs.size ≤ C := hC
        exact Nat.le_of_lt (Nat.lt_of_le_of_lt q1 (Nat.lt_trans hsz (Nat.lt_of_le_of_lt q3 q2)))⟩
      have hc5 : s₅.heap.IsCell c (some (.ref aT)) := hc3.keeps (stays_trans k₄ k45)
      have X5 := b5.in B
      refine Call_ (Name_function_global (env := compEnvC _ [("things", c)] C _) rfl rfl (loadGlobal_global (B.T.g.keeps k05) (mg_of B.X B.T.g (by k_is)) ?_) (by decide))
      refine callWith_K X5 (by k_is) (spliced_more (wpAny_Name (wpAny_loadName_local rfl rfl hn hm (spliced_more (wpAny_Name (wpAny_loadName_cell rfl rfl (c := c) rfl hc5 (spliced_none ⟨X5, ?_⟩)) (by decide)))) (by decide)))
      have hv : v ∈ ts := by
        have := Array.mem_of_getElem? hP
        rw [← hE] at this
        simp only [List.mem_toArray] at this
        simp only [List.mem_cons, List.not_mem_nil, or_false] at this
        have gm : ∀ j, j < 4 → ts.getD (x.ix j) .none ∈ ts := fun j hj => by
          rw [List.getD_eq_getElem?_getD, List.getElem?_eq_getElem (hix j hj)]
          exact List.getElem_mem _
        rcases this with rfl | rfl | rfl | rfl
        · exact gm 0 (by decide)
        · exact gm 1 (by decide)
        · exact gm 2 (by decide)
        · exact gm 3 (by decide)
      have := idx_spec (prog := prog) (A := A') (E := E') (s := s₅) (h := s₅.heap) (t := s₅.toks) (v := v) B am'.mono b5 (k5 _ _ hT) hts (fun y hy => (hob y hy).stays k5) ((hob v hv).stays k5) (Q := fun y s₄ => (∃ u, y = Value.int (idxV ts v) u) ∧ Keeps s₅ s₄) fun h' t' u kk => ⟨⟨u, rfl⟩, h', t', rfl, kk⟩
      exact this
    · intro D h' tk ys vs hDn hl hpl hlen hP hFp hk
      have hvs : vs = items.toList := by
        apply List.ext_getElem?
        intro j
        by_cases hj : j < vs.length
        · rw [List.getElem?_eq_getElem hj]
          have := hP j vs[j] (List.getElem?_eq_getElem hj)
          rw [Array.getElem?_toList, this]
        · rw [List.getElem?_eq_none (by omega), List.getElem?_eq_none (by rw [Array.length_toList]; omega)]
      have hint := paired_ints hFp
      rw [show vs.filter (fun _ => true) = vs from List.filter_eq_self.mpr (fun _ _ => rfl), hvs, ← hE] at hint
      dsimp only [List.map] at hint
      rw [hidx 0 (by decide), hidx 1 (by decide), hidx 2 (by decide), hidx 3 (by decide)] at hint
      have k46 : h₄.StaysIn h' := fun b o q => hk b o (by simpa using ne_of q hI5) (kp _ _ q)
      have k36 : h₃.StaysIn h' := stays_trans k₄ k46
      have F₆ := F₃.keeps k36
      refine ev_itemX (xs := rs.map fun x => .ref x.q) (fun Q' q => ldX F₆ m2 q) (k36 _ _ (ko _ _ hD)) (fun Q' q => ldX F₆ rfl q) (by omega) (by omega) (v := .ref x.q) (by simp [hxi]) ?_
      refine ne_intsK (vs := ys.toList) (us := us) hl hint ⟨_, k36 _ _ hq, rfl, _, rfl⟩ hus (by have := am'.units; show A'.units + 64 < 9900; omega) ?_
      refine wpAny_truthy_bool ?_
      rw [if_neg (by simp)]
      refine wpAny_execs_nil (wpAny_execs_nil ?_)
      refine ⟨_, _, rfl, ⟨_, F₆, m1, m2, hI0, fun b o nb q => k36 b o (e13 b o nb q)⟩, ?_⟩
      exact (by rw [hoI] at hI3 ⊢; exact k36 _ _ hI3)
  · rintro I h' h₂ t₂ ⟨m, F', m1, m2, hI0, e⟩ e2
    have hIL := fr_ne hF hI0
    refine wpAny_execs_cons (wpAny_Return_some (wpAny_Constant_bool ?_))
    exact k _ _ fun b o q => (e.trans (e2.mono (by simp))) b o (by
      simp only [List.mem_cons, List.not_mem_nil, or_false, not_or]
      exact ⟨ne_of (k₁ _ _ q) hI0, ne_of q hLn⟩) (k₁ _ _ q)
end
end Mine
end
section
open PySem PySem.W PySem.W.X PyProof.Rows PySem.Calls
namespace Mine
theorem fill18 : (fun (_ : OpenLaw) (_ : Params → Frag) => True) PySem.Challenge.rw_kl0193_01 hdK.heap_1 := by
  k_fill
  trivial
theorem boot_isi : bootBuiltins "isinstance" = some (.builtin "isinstance") := by decide +kernel
section
variable {prog : Program} {w : World} {mg mb : Str → Option Value} {A : Around} {E : Value → Shared → Prop} {s : Shared} {h h₀ : Heap} {t : Nat}
theorem cw_b {env : Env} {pos : Pos} {id : String} {first : List Value} {e : Expr} {rest : List Expr} {Q : Value → Shared → Prop} {s' : Shared}
    (h : wpAny (model prog w) A (spliced (backTo pos (starEach (e :: rest) env))) (fun vs s₁ => wpAny (model prog w) A (call (.builtin id) (first ++ vs)) Q E s₁) E s')
    (he : starEach (e :: rest) env = (false, eval e env) :: starEach rest env := by rfl)
    (hplain : (backTo pos (starEach rest env)).any (·.1) = false := by rfl) :
    wpAny (model prog w) A (callWith pos (.builtin id) first (backTo pos (starEach (e :: rest) env)) []) Q E s' := by
  rw [he] at h ⊢
  exact PySem.Calls.callWith_builtin (by show (false || (backTo pos (starEach rest env)).any (·.1)) = false; rw [hplain]; rfl) (evalArgs_plain h)
/-- x.append(e) -/
theorem ev_app {env : Env} {x : Str} {e : Expr} {a n : Nat} {items : Array Value} {p1 p2 pos : Pos} {Q : Value → Shared → Prop} {pl : Sem Bool}
    (hm : ∀ Q' : Value → Shared → Prop, Q' (.ref a) (St s h t) → wpAny (model prog w) A (eval (.Name x p1) env) Q' E (St s h t)) (ha : h.get? a = some (lstO items n)) (hsz : items.size ≤ 1000)
    (he : wpAny (model prog w) A (spliced (backTo pos (starEach [e] env))) (fun vs s₁ => ∃ v h' t', vs = [v] ∧ s₁ = St s h' t' ∧ h'.get? a = some (lstO items n) ∧ ∀ h'', Heap.SameBut a h' h'' → h''.get? a = some (lstO (items.push v) (n + 1)) → Q .none (St s h'' t')) E (St s h t))
    (hs : starEach [e] env = (false, eval e env) :: starEach [] env := by rfl)
    (hev : eval (.Call (.Attribute (.Name x p1) "append" p2) [e] [] pos) env = (do
      let ov ← eval (.Name x p1) env
      standAt p2.atName
      let (f', first) ← holding [ov] (getMethod ov "append" pl)
      callWith pos f' first (backTo pos (starEach [e] env)) []) := by rfl) :
    wpAny (model prog w) A (eval (.Call (.Attribute (.Name x p1) "append" p2) [e] [] pos) env) Q E (St s h t) := by
  refine MethodCall_ (hm _ (Calls.getMethod_list_append ha rfl rfl ?_)) hev
  refine cw_b (wpAny_mono he (fun vs s₁ q => ?_) fun _ _ x => x) hs rfl
  obtain ⟨v, h', t', rfl, rfl, ha', k⟩ := q
  refine append_at ha' (fun h'' hs' ha'' => k h'' hs' ha'') (by rw [sizeLine_eq]; omega)
theorem isi_all (X : (hdK.heap_1 w.params).In h) {j c : Nat} (hj : j < 4) (hc : c < 4) {a d : Addr} (ha : h.get? a = some (inst (hCls j) d)) :
    wpAny (model prog w) A1 (call (.builtin "isinstance") [.ref a, .ref (hCls c)]) (Lf s h fun v _ => v = .bool (j == c)) E ⟨h, s.gens, s.drawn, t, s.os⟩ := by
  have h4 : ∀ x, x < 4 → x = 0 ∨ x = 1 ∨ x = 2 ∨ x = 3 := by omega
  rcases h4 j hj with rfl | rfl | rfl | rfl <;> rcases h4 c hc with rfl | rfl | rfl | rfl
  · exact isi00_leaf X ha
  · exact isi01_leaf X ha
  · exact isi02_leaf X ha
  · exact isi03_leaf X ha
  · exact isi10_leaf X ha
  · exact isi11_leaf X ha
  · exact isi12_leaf X ha
  · exact isi13_leaf X ha
  · exact isi20_leaf X ha
  · exact isi21_leaf X ha
  · exact isi22_leaf X ha
  · exact isi23_leaf X ha
  · exact isi30_leaf X ha
  · exact isi31_leaf X ha
  · exact isi32_leaf X ha
  · exact isi33_leaf X ha
/-- isinstance(lies[k], C) -/
theorem ev_isi (B : Base0 w mg mb h₀) {m : Str → Option Value} {cn : Str} {cs : Scope} {L f : Addr} {cd : Value} {x y cls : Str} {al n : Nat} {xs : List Value} {i : Nat} {u : Tok} {c : Nat} {a d : Addr} {p1 p2 p3 p4 p5 p6 : Pos} {Q : Value → Shared → Prop} (am : Am A 500 2000) (F : Fr h₀ L h m)
    (hx : m x = some (.ref al)) (hal : h.get? al = some (lstO xs.toArray n)) (hy : m y = some (.int (i : Int) u)) (hv : xs[i]? = some (.ref a)) (hi : i < 4) (hc : c < 4) (ha : h.get? a = some (inst (hCls i) d))
    (hcls : nsIn (hdK.heap_1 w.params) mainGlobals cls = some (some (.ref (hCls c))))
    (k : ∀ h' t', h.StaysIn h' → Q (.bool (i == c)) (St s h' t'))
    (hk : cs.kind = .function := by rfl) (h1 : (envOf cn cs L f cd).kindOf "isinstance" = some .globalImplicit := by rfl) (h2 : (envOf cn cs L f cd).kindOf x = some .local := by rfl) (h3 : (envOf cn cs L f cd).kindOf y = some .local := by rfl) (h4 : (envOf cn cs L f cd).kindOf cls = some .globalImplicit := by rfl)
    (d1 : (x == ("__debug__" : Str)) = false := by decide) (d2 : (y == ("__debug__" : Str)) = false := by decide) (d3 : (cls == ("__debug__" : Str)) = false := by decide) :
    wpAny (model prog w) A (eval (.Call (.Name "isinstance" p1) [.Subscript (.Name x p2) (.Name y p3) p4, .Name cls p5] [] p6) (envOf cn cs L f cd)) Q E (St s h t) := by
  refine Call_ (name_B F B.X B.T (by k_is) boot_isi (by decide) ?_ hk h1 (by decide))
  refine cw_b (first := []) (spliced_more ?_)
  refine ev_itemX (xs := xs) (fun Q' q => ld F hx q hk h2 d1) hal (fun Q' q => ld F hy q hk h3 d2) (by omega) (by omega) (v := .ref a) (by simpa using hv) ?_
  refine spliced_more (name_K F B.X B.T hcls (spliced_none ?_) hk h4 d3)
  exact Lf.use2 (lift am (isi_all ((Bs.of F).in B) hi hc ha)) fun v h' t' kk e => by subst e; exact k h' t' kk
end
end Mine
end
section
open PySem PySem.W PySem.W.X PyProof.Rows PySem.Calls
namespace Mine
theorem fill19 : (fun (_ : OpenLaw) (_ : Params → Frag) => True) PySem.Challenge.rw_kl0193_01 hdK.heap_1 := by
  k_fill
  trivial
def pk (a0 a1 a2 a3 : Addr) (j : Nat) : Addr := match j with | 0 => a0 | 1 => a1 | 2 => a2 | _ => a3
/-- what a begun reader brought -/
structure Begun (h h' : Heap) (len : Nat) (r d q : Addr) (ad dd : Nat → Addr) : Prop where
  fresh : ∀ b ∈ [r, d, q, ad 0, ad 1, ad 2, ad 3, dd 0, dd 1, dd 2, dd 3], h.get? b = none
  apart : [r, d, q, ad 0, ad 1, ad 2, ad 3, dd 0, dd 1, dd 2, dd 3].Nodup
  rd : h'.get? r = some (inst 417 d)
  dct : RD h' d (fun j => .ref (ad j))
  row : ∃ us n, h'.get? q = some (lstO us.toArray n) ∧ IntsAre us [(len : Int), (len : Int) + 1, (len : Int) + 2, (len : Int) + 3]
  ins : ∀ j, j < 4 → h'.get? (ad j) = some (inst (hCls j) (dd j))
  loc : ∃ kk tt n, h'.get? (dd 0) = some (Mine.dct #[⟨kk, .str "_locator" tt, .none⟩] n)
  emp : ∀ j, 0 < j → j < 4 → h'.get? (dd j) = some (Mine.dct #[] 0)
abbrev scBeg : Scope := { kind := ScopeKind.function, names := [(Str.ofString "readers", NameKind.local), (Str.ofString "drawers", NameKind.local), (Str.ofString "things", NameKind.local), (Str.ofString "kinds", NameKind.local), (Str.ofString "reader", NameKind.local), (Str.ofString "lies", NameKind.local), (Str.ofString "k", NameKind.local), (Str.ofString "of", NameKind.local), (Str.ofString "XMLReader", NameKind.globalImplicit), (Str.ofString "_law_lies", NameKind.globalImplicit), (Str.ofString "range", NameKind.globalImplicit), (Str.ofString "isinstance", NameKind.globalImplicit), (Str.ofString "ContentHandler", NameKind.globalImplicit), (Str.ofString "DTDHandler", NameKind.globalImplicit), (Str.ofString "EntityResolver", NameKind.globalImplicit), (Str.ofString "ErrorHandler", NameKind.globalImplicit), (Str.ofString "_law_index", NameKind.globalImplicit), (Str.ofString "len", NameKind.globalImplicit)], isGenerator := false, isCoroutine := false }
section
variable {prog : Program} {w : World} {mg mb : Str → Option Value} {A : Around} {E : Value → Shared → Prop} {s : Shared} {h h₀ : Heap} {t : Nat}
theorem ints_snoc {vs : List Value} {ns : List Int} (x : IntsAre vs ns) (n : Int) (u : Tok) : IntsAre (vs ++ [.int n u]) (ns ++ [n]) := by
  induction x with
  | nil => exact .cons _ _ .nil
  | cons a b _ ih => exact .cons _ _ ih
theorem cast_eq (i k : Nat) : (((i : Nat) : Int) == ((k : Nat) : Int)) = (i == k) := by
  by_cases q : i = k
  · subst q; simp
  · rw [beq_false_of_ne q, beq_false_of_ne (by omega)]
theorem lt_chain {a b : Nat} {l : List Nat} (h : a < b) (k : (b :: l).Pairwise (· < ·)) : (a :: b :: l).Pairwise (· < ·) :=
  .cons (fun x m => by
    rcases List.mem_cons.mp m with e | m
    · exact e ▸ h
    · exact Nat.lt_trans h ((List.pairwise_cons.mp k).1 x m)) k
theorem mid1 (a b : Nat) (l r : List Nat) : (l ++ a :: b :: r).Perm (b :: (l ++ a :: r)) := by
  have : (l ++ a :: b :: r) = (l ++ [a]) ++ b :: r := by simp
  rw [this]
  refine .trans List.perm_middle (.cons b ?_)
  rw [List.append_assoc]
  exact .refl _
theorem nodup11 {r d q a0 d0 a1 d1 a2 d2 a3 d3 : Nat} (ord : d < r ∧ r < d0 ∧ d0 < a0 ∧ a0 < d1 ∧ d1 < a1 ∧ a1 < d2 ∧ d2 < a2 ∧ a2 < d3 ∧ d3 < a3) (n : ∀ b ∈ [r, d, a0, a1, a2, a3, d0, d1, d2, d3], b ≠ q) : [r, d, q, a0, a1, a2, a3, d0, d1, d2, d3].Nodup := by
  have S : [d, r, d0, a0, d1, a1, d2, a2, d3, a3].Pairwise (· < ·) := by
    obtain ⟨o1, o2, o3, o4, o5, o6, o7, o8, o9⟩ := ord
    refine lt_chain o1 (lt_chain o2 (lt_chain o3 (lt_chain o4 (lt_chain o5 (lt_chain o6 (lt_chain o7 (lt_chain o8 (lt_chain o9 (.cons (fun _ m => (nomatch m)) .nil)))))))))
  have N : [d, r, d0, a0, d1, a1, d2, a2, d3, a3].Nodup := S.imp fun l => Nat.ne_of_lt l
  have P : [d, r, d0, a0, d1, a1, d2, a2, d3, a3].Perm [r, d, a0, a1, a2, a3, d0, d1, d2, d3] := by
    refine .trans (.swap r d _) (.cons r (.cons d ?_))
    refine .trans (mid1 d0 a0 [] _) (.cons a0 (.trans (mid1 d1 a1 [d0] _) (.cons a1 (.trans (mid1 d2 a2 [d0, d1] _) (.cons a2 (mid1 d3 a3 [d0, d1, d2] []))))))
  have N' := P.nodup_iff.mp N
  have q2 := List.nodup_cons.mp N'
  have q3 := List.nodup_cons.mp q2.2
  refine List.nodup_cons.mpr ⟨fun m => ?_, List.nodup_cons.mpr ⟨fun m => ?_, List.nodup_cons.mpr ⟨fun m => ?_, q3.2⟩⟩⟩
  · rcases List.mem_cons.mp m with e | m
    · exact q2.1 (e ▸ .head _)
    · rcases List.mem_cons.mp m with e | m
      · exact n r (.head _) e
      · exact q2.1 (.tail _ m)
  · rcases List.mem_cons.mp m with e | m
    · exact n d (.tail _ (.head _)) e
    · exact q3.1 m
  · exact n q (.tail _ (.tail _ m)) rfl
theorem ne_bools {a b n n' : Nat} {b0 b1 b2 b3 c0 c1 c2 c3 : Bool} {Q : Value → Shared → Prop} (ha : h.get? a = some (lstO #[.bool b0, .bool b1, .bool b2, .bool b3] n)) (hb : h.get? b = some (lstO #[.bool c0, .bool c1, .bool c2, .bool c3] n')) (e0 : b0 = c0) (e1 : b1 = c1) (e2 : b2 = c2) (e3 : b3 = c3) (hu : A.units ≤ 2000)
    (q : Q (.bool false) (St s h t)) : wpAny (model prog w) A (compareOp .NotEq (.ref a) (.ref b)) Q E (St s h t) := by
  subst e0 e1 e2 e3
  have z := SeqAt.RcNeAt.lists (A := A) (s := St s h t) (e := fun _ => true) (l := a) (b := b) ⟨_, ha, rfl, _, rfl⟩ ⟨_, hb, rfl, _, rfl⟩ rfl (by show A.units < 9900; omega) (fun j h1 h2 => ?_)
  · exact z prog w E Q q
  have h4 : j = 0 ∨ j = 1 ∨ j = 2 ∨ j = 3 := by have : j < 4 := h1; omega
  rcases h4 with rfl | rfl | rfl | rfl
  · simpa using SeqAt.EqAt.bool_bool (A := A.in1) (s := St s h t) b0 b0
  · simpa using SeqAt.EqAt.bool_bool (A := A.in1) (s := St s h t) b1 b1
  · simpa using SeqAt.EqAt.bool_bool (A := A.in1) (s := St s h t) b2 b2
  · simpa using SeqAt.EqAt.bool_bool (A := A.in1) (s := St s h t) b3 b3
theorem begin_spec (B : Base0 w mg mb h₀) (b : Bs h₀ h) (am : Am A 385 1385) {aR aD aT aK nR nD nT nK : Nat} {RV DV ts us : List Value} (hR : h.get? aR = some (lstO RV.toArray nR)) (hD : h.get? aD = some (lstO DV.toArray nD)) (hT : h.get? aT = some (lstO ts.toArray nT)) (hK : h.get? aK = some (lstO us.toArray nK))
    (lR : RV.length ≤ 900) (lD : DV.length ≤ 900) (lT : ts.length ≤ 900) (lK : us.length ≤ 900) (zR : h₀.get? aR = none) (zD : h₀.get? aD = none) (zT : h₀.get? aT = none) (zK : h₀.get? aK = none) (ap : [aR, aD, aT, aK].Nodup) (hob : ∀ v ∈ ts, Ob h v) {Q : Value → Shared → Prop}
    (k : ∀ h' t' r d q ad dd us' nR' nD' nT' nK', Begun h h' ts.length r d q ad dd → Ex [aR, aD, aT, aK] h h' → IntsAre us' [0, 1, 2, 3] → h'.get? aR = some (lstO (RV ++ [Value.ref r]).toArray nR') → h'.get? aD = some (lstO (DV ++ [Value.ref q]).toArray nD') →
      h'.get? aT = some (lstO (ts ++ [Value.ref (ad 0), Value.ref (ad 1), Value.ref (ad 2), Value.ref (ad 3)]).toArray nT') → h'.get? aK = some (lstO (us ++ us').toArray nK') → Q (.bool true) (St s h' t')) :
    wpAny (model prog w) A (call (.ref 456) [.ref aR, .ref aD, .ref aT, .ref aK]) Q E (St s h t) := by
  refine wpAny_call (enter B b am (binds := [("readers", .ref aR), ("drawers", .ref aD), ("things", .ref aT), ("kinds", .ref aK)]) (by k_is) (by k_is) (BindsTo.of_eq rfl) (locs rfl) (fun h₁ F k₁ => ?_))
  have hL := size_none h
  generalize h.objs.size = L at *
  have am' : Am (A.deeper (envOf "_law_begin" scBeg L 456 (.ref 455))) 386 1388 := am.deeper _
  refine wpAny_mono ?_ (fun _ _ x => x) (fun _ _ (x : False) => x.elim)
  generalize A.deeper _ = A' at *
  generalize t + _ = t₁
  refine asg (Call_ (name_K F B.X B.T (by k_is) (callWith_K0 ((Bs.of F).in B) (by k_is) ?_)))
  refine Lf.use2 (lift am'.mono (newRd_leaf ((Bs.of F).in B))) fun v h₂ t₂ k₂ N => ?_
  obtain ⟨r, d, a0, d0, a1, d1, a2, d2, a3, d3, kk, tt, n, rfl, ord, fr, hr, hRD, i0, e0, i1, e1, i2, e2, i3, e3⟩ := N
  refine stE (F.keeps k₂) fun h₃ F₃ x₃ => ?_
  have LL : ∀ {b}, h₁.get? b = none → b ≠ L := fun q => fr_ne F q
  have v3 : ∀ {b o}, h₁.get? b = none → h₂.get? b = some o → h₃.get? b = some o := fun q e => x₃ _ _ (by simpa using LL q) e
  obtain ⟨fd, frr, fd0, fa0, fd1, fa1, fd2, fa2, fd3, fa3⟩ := fr
  have hr3 := v3 frr hr
  have hRD3 : RD h₃ d (fun j => match j with | 0 => .ref a0 | 1 => .ref a1 | 2 => .ref a2 | _ => .ref a3) := by
    obtain ⟨k1, k2, k3, k4, t1, t2, t3, t4, n, q⟩ := hRD
    exact ⟨k1, k2, k3, k4, t1, t2, t3, t4, n, v3 fd q⟩
  refine asg (Call_ (name_K F₃ B.X B.T (by k_is) (callWith_K ((Bs.of F₃).in B) (by k_is) (spliced_more (ld F₃ rfl (spliced_none ⟨(Bs.of F₃).in B, ?_⟩))))))
  refine lies_spec B (Bs.of F₃) am'.mono hr3 hRD3 (fun i hi => .inr ?_) fun h₄ t₄ al nl k₄ fal hal => ?_
  · have h4 : i = 0 ∨ i = 1 ∨ i = 2 ∨ i = 3 := by omega
    rcases h4 with rfl | rfl | rfl | rfl <;> exact ⟨_, rfl⟩
  replace hal : h₄.get? al = some (lstO #[.ref a0, .ref a1, .ref a2, .ref a3] nl) := hal
  refine stE (F₃.keeps k₄) fun h₅ F₅ x₅ => ?_
  have alL : al ≠ L := fr_ne F₃ fal
  have v5 : ∀ {b o}, h₁.get? b = none → h₂.get? b = some o → h₅.get? b = some o := fun q e => x₅ _ _ (by simpa using LL q) (k₄ _ _ (v3 q e))
  have k5 : h.StaysIn h₅ := fun b o q => x₅ b o (by simpa using ne_of q hL) (k₄ _ _ (x₃ b o (by simpa using ne_of q hL) (k₂ _ _ (k₁ _ _ q))))
  have hal5 := x₅ _ _ (by simpa using alL) hal
  have ins5 : ∀ j, j < 4 → h₅.get? (pk a0 a1 a2 a3 j) = some (inst (hCls j) (pk d0 d1 d2 d3 j)) := fun j hj => by
    have h4 : j = 0 ∨ j = 1 ∨ j = 2 ∨ j = 3 := by omega
    rcases h4 with rfl | rfl | rfl | rfl
    · exact v5 fa0 i0
    · exact v5 fa1 i1
    · exact v5 fa2 i2
    · exact v5 fa3 i3
  have fra : ∀ j, j < 4 → h₁.get? (pk a0 a1 a2 a3 j) = none := fun j hj => by
    have h4 : j = 0 ∨ j = 1 ∨ j = 2 ∨ j = 3 := by omega
    rcases h4 with rfl | rfl | rfl | rfl
    · exact fa0
    · exact fa1
    · exact fa2
    · exact fa3
  have old : ∀ {b o}, h.get? b = some o → h₅.get? b = some o := fun q => k5 _ _ q
  have nR' := ne_of hR hL
  have nD' := ne_of hD hL
  have nT' := ne_of hT hL
  have nK' := ne_of hK hL
  simp only [List.nodup_cons, List.mem_cons, List.not_mem_nil, or_false, not_or, List.nodup_nil, and_true, not_false_eq_true] at ap
  obtain ⟨⟨apRD, apRT, apRK⟩, ⟨apDT, apDK⟩, apTK⟩ := ap
  have alT : al ≠ aT := Ne.symm (ne_of (x₃ _ _ (by simpa using nT') (k₂ _ _ (k₁ _ _ hT))) fal)
  have alK : al ≠ aK := Ne.symm (ne_of (x₃ _ _ (by simpa using nK') (k₂ _ _ (k₁ _ _ hK))) fal)
  refine wpAny_execs_cons (for_range (n := 4) (by omega) am'.handled
    (fun I i h' => ∃ m, Fr h₀ L h' m ∧ m "readers" = some (.ref aR) ∧ m "drawers" = some (.ref aD) ∧ m "things" = some (.ref aT) ∧ m "kinds" = some (.ref aK) ∧ m "reader" = some (.ref r) ∧ m "lies" = some (.ref al) ∧ h₅.get? I = none ∧ Ex [I, L, aT, aK] h₅ h' ∧
      (∃ n', h'.get? aT = some (lstO (ts ++ [Value.ref a0, Value.ref a1, Value.ref a2, Value.ref a3].take i).toArray n')) ∧ (∃ us' n', h'.get? aK = some (lstO (us ++ us').toArray n') ∧ IntsAre us' (([0, 1, 2, 3] : List Int).take i))) ?_ ?_ ?_ ?_)
  · intro Qe hQe
    refine Call_ (name_B F₅ B.X B.T (by k_is) PyProof.Rows.boot_range (by decide) ?_)
    refine PySem.callWith_type1 (kI (k := 0) (pos := ⟨0, 0, 0, 0⟩) (call_range_1 (hQe _ _ _ (stays_push _ _) ⟨_, _, _, IsRange.new _ _ _ _ _ _ _⟩)))
  · intro h₆ I k₆ hI
    exact ⟨_, F₅.keeps k₆, rfl, rfl, rfl, rfl, rfl, rfl, hI, Ex.of_stays k₆, ⟨_, by rw [List.take_zero, List.append_nil]; exact k₆ _ _ (old hT)⟩, ⟨[], _, by rw [List.append_nil]; exact k₆ _ _ (old hK), .nil⟩⟩
  · rintro I i u h₆ h₇ t₇ hi ⟨m, F₆, m1, m2, m3, m4, m5, m6, hI0, e, ⟨nt, hT6⟩, us', nk, hK6, hus⟩ e7 ⟨oI, hoI⟩
    have hIL : I ≠ L := fr_ne F₅ hI0
    have hIT : aT ≠ I := ne_of (old hT) hI0
    have hIK : aK ≠ I := ne_of (old hK) hI0
    have F₇ : Fr h₀ L h₇ m := fr_ex F₆ e7 (by simpa using Ne.symm hIL) (by simpa using none_of F₅.keep hI0)
    have e57 : Ex [I, L, aT, aK] h₅ h₇ := e.trans (e7.mono (by simp))
    refine stE F₇ (fun h₈ F₈ x₈ => ?_)
    have e58 : Ex [I, L, aT, aK] h₅ h₈ := e57.trans (x₈.mono (by simp))
    have hT8 := x₈ _ _ (by simpa using nT') (e7 _ _ (by simpa using hIT) hT6)
    have hK8 := x₈ _ _ (by simpa using nK') (e7 _ _ (by simpa using hIK) hK6)
    have hal8 := e58 _ _ (by simpa using ⟨ne_of hal5 hI0, alL, alT, alK⟩) hal5
    have ins8 : ∀ j, j < 4 → h₈.get? (pk a0 a1 a2 a3 j) = some (inst (hCls j) (pk d0 d1 d2 d3 j)) := fun j hj => e58 _ _ (by
      simp only [List.mem_cons, List.not_mem_nil, or_false, not_or]
      exact ⟨ne_of (ins5 j hj) hI0, LL (fra j hj), Ne.symm (ne_of (k₁ _ _ hT) (fra j hj)), Ne.symm (ne_of (k₁ _ _ hK) (fra j hj))⟩) (ins5 j hj)
    have hv : ([Value.ref a0, Value.ref a1, Value.ref a2, Value.ref a3] : List Value)[i]? = some (.ref (pk a0 a1 a2 a3 i)) := by
      have h4 : i = 0 ∨ i = 1 ∨ i = 2 ∨ i = 3 := by omega
      rcases h4 with rfl | rfl | rfl | rfl <;> rfl
    refine asg ?_
    refine List_ (spliced_more ?_)
    refine ev_isi (c := 0) (xs := [Value.ref a0, Value.ref a1, Value.ref a2, Value.ref a3]) B am'.mono F₈ m6 hal8 rfl hv hi (by decide) (ins8 i hi) (by k_is) fun g1 u1 z1 => spliced_more ?_
    refine ev_isi (c := 1) (xs := [Value.ref a0, Value.ref a1, Value.ref a2, Value.ref a3]) B am'.mono (F₈.keeps z1) m6 (z1 _ _ hal8) rfl hv hi (by decide) (z1 _ _ (ins8 i hi)) (by k_is) fun g2 u2 z2 => spliced_more ?_
    replace z2 := stays_trans z1 z2
    refine ev_isi (c := 2) (xs := [Value.ref a0, Value.ref a1, Value.ref a2, Value.ref a3]) B am'.mono (F₈.keeps z2) m6 (z2 _ _ hal8) rfl hv hi (by decide) (z2 _ _ (ins8 i hi)) (by k_is) fun g3 u3 z3 => spliced_more ?_
    replace z3 := stays_trans z2 z3
    refine ev_isi (c := 3) (xs := [Value.ref a0, Value.ref a1, Value.ref a2, Value.ref a3]) B am'.mono (F₈.keeps z3) m6 (z3 _ _ hal8) rfl hv hi (by decide) (z3 _ _ (ins8 i hi)) (by k_is) fun g4 u4 z4 => spliced_none (newL ?_ (by simp))
    replace z4 := stays_trans z3 z4
    have ho5 := Heap.get?_push_size g4 (o := lstO #[.bool (i == 0), .bool (i == 1), .bool (i == 2), .bool (i == 3)] 0) rfl
    have z5 := stays_trans z4 (stays_push g4 (lstO #[.bool (i == 0), .bool (i == 1), .bool (i == 2), .bool (i == 3)] 0))
    have hof : h₈.get? g4.objs.size = none := none_of z4 (size_none _)
    refine stE (F₈.keeps z5) fun h₉ F₉ x₉ => ?_
    have ofL : g4.objs.size ≠ L := fr_ne F₈ hof
    replace ho5 := x₉ _ _ (by simpa using ofL) ho5
    generalize g4.objs.size = ao at *
    have z9 : Ex [L] h₈ h₉ := (Ex.of_stays z5).trans x₉
    have hT9 := z9 _ _ (by simpa using nT') hT8
    have hK9 := z9 _ _ (by simpa using nK') hK8
    have hal9 := z9 _ _ (by simpa using alL) hal8
    have hI9 : h₉.get? I = some oI := z9 _ _ (by simpa using hIL) (x₈ _ _ (by simpa using hIL) hoI)
    have ht4 : (ts ++ [Value.ref a0, Value.ref a1, Value.ref a2, Value.ref a3].take i).length ≤ 1000 := by rw [List.length_append, List.length_take]; simp only [List.length_cons, List.length_nil]; omega
    refine wpAny_execs_cons (wpAny_If (isTrue_or (wpAny_isTrue_Compare1 ?_)))
    refine ld F₉ (if_pos rfl) ?_
    refine List_ (spliced_more ?_)
    refine wpAny_Compare1 (ld F₉ rfl (kI (eq_int (spliced_more ?_))))
    refine wpAny_Compare1 (ld F₉ rfl (kI (eq_int (spliced_more ?_))))
    refine wpAny_Compare1 (ld F₉ rfl (kI (eq_int (spliced_more ?_))))
    refine wpAny_Compare1 (ld F₉ rfl (kI (eq_int (spliced_none (newL ?_ (by simp))))))
    have y9 := stays_push h₉ (lstO #[.bool ((i : Int) == 0), .bool ((i : Int) == 1), .bool ((i : Int) == 2), .bool ((i : Int) == 3)] 0)
    refine ne_bools (y9 _ _ ho5) (Heap.get?_push_size h₉ (o := lstO #[.bool ((i : Int) == 0), .bool ((i : Int) == 1), .bool ((i : Int) == 2), .bool ((i : Int) == 3)] 0) rfl) ?_ ?_ ?_ ?_ (by have := am'.units; omega) ?_
    · exact (cast_eq i 0).symm
    · exact (cast_eq i 1).symm
    · exact (cast_eq i 2).symm
    · exact (cast_eq i 3).symm
    refine wpAny_truthy_bool ?_
    rw [if_neg (by decide)]
    generalize h₉.push _ = h₁₀ at *
    have F₁₀ := F₉.keeps y9
    have z10 : Ex [L] h₈ h₁₀ := z9.trans (Ex.of_stays y9)
    have e510 : Ex [I, L, aT, aK] h₅ h₁₀ := e58.trans (z10.mono (by simp))
    refine isTrue_or (wpAny_isTrue_Compare1 ?_)
    refine Call_ (name_K F₁₀ B.X B.T (by k_is) (callWith_K ((Bs.of F₁₀).in B) (by k_is) (spliced_more ?_)))
    refine ev_itemX (xs := [Value.ref a0, Value.ref a1, Value.ref a2, Value.ref a3]) (fun Q' q => ld F₁₀ m6 q) (y9 _ _ hal9) (fun Q' q => ld F₁₀ rfl q) (by omega) (by omega) (v := .ref (pk a0 a1 a2 a3 i)) (by simpa using hv) ?_
    refine spliced_more (ld F₁₀ m3 (spliced_none ⟨(Bs.of F₁₀).in B, ?_⟩))
    have ins10 : ∀ j, j < 4 → h₁₀.get? (pk a0 a1 a2 a3 j) = some (inst (hCls j) (pk d0 d1 d2 d3 j)) := fun j hj => z10 _ _ (by simpa using LL (fra j hj)) (ins8 j hj)
    have hnone : idxV (ts ++ [Value.ref a0, Value.ref a1, Value.ref a2, Value.ref a3].take i) (.ref (pk a0 a1 a2 a3 i)) = -1 := by
      refine idxV_none fun j _ ee => ?_
      rcases List.mem_append.mp (List.mem_of_getElem? ee) with hm | hm
      · rcases hob _ hm with z | ⟨a, o, z, hz, _⟩
        · cases z
        · cases z; rw [none_of k₁ (fra i hi)] at hz; cases hz
      · obtain ⟨q1, q2, q3, q4, q5, q6, q7, q8, q9⟩ := ord
        have h4 : i = 0 ∨ i = 1 ∨ i = 2 ∨ i = 3 := by omega
        have c1 : a0 < a1 := Nat.lt_trans q4 q5
        have c2 : a1 < a2 := Nat.lt_trans q6 q7
        have c3 : a2 < a3 := Nat.lt_trans q8 q9
        rcases h4 with rfl | rfl | rfl | rfl
        · simp at hm
        · simp [pk] at hm
          exact Nat.ne_of_gt c1 hm
        · simp [pk] at hm
          rcases hm with z | z
          · exact Nat.ne_of_gt (Nat.lt_trans c1 c2) z
          · exact Nat.ne_of_gt c2 z
        · simp [pk] at hm
          rcases hm with z | z | z
          · exact Nat.ne_of_gt (Nat.lt_trans (Nat.lt_trans c1 c2) c3) z
          · exact Nat.ne_of_gt (Nat.lt_trans c2 c3) z
          · exact Nat.ne_of_gt c3 z
    have obs : ∀ y ∈ ts ++ [Value.ref a0, Value.ref a1, Value.ref a2, Value.ref a3].take i, Ob h₁₀ y := by
      intro y hy
      rcases List.mem_append.mp hy with hm | hm
      · rcases hob _ hm with z | ⟨a, o, z, hz, hc⟩
        · exact .inl z
        · refine .inr ⟨a, ?_⟩
          by_cases zT' : a = aT
          · exact ⟨_, z, zT' ▸ y9 _ _ hT9, by simp⟩
          by_cases zK' : a = aK
          · exact ⟨_, z, zK' ▸ y9 _ _ hK9, by simp⟩
          exact ⟨o, z, e510 _ _ (by simpa using ⟨ne_of (old hz) hI0, ne_of hz hL, zT', zK'⟩) (old hz), hc⟩
      · have := List.mem_of_mem_take hm
        simp only [List.mem_cons, List.not_mem_nil, or_false] at this
        rcases this with rfl | rfl | rfl | rfl
        · exact .inr ⟨_, _, rfl, ins10 0 (by decide), by simp⟩
        · exact .inr ⟨_, _, rfl, ins10 1 (by decide), by simp⟩
        · exact .inr ⟨_, _, rfl, ins10 2 (by decide), by simp⟩
        · exact .inr ⟨_, _, rfl, ins10 3 (by decide), by simp⟩
    refine idx_spec B am'.mono (Bs.of F₁₀) (y9 _ _ hT9) ht4 obs (.inr ⟨_, _, rfl, ins10 i hi, by simp⟩) fun h₁₁ u₁₁ w₁₁ y11 => ?_
    rw [hnone]
    refine UnaryOp_ (kI (neg_int ?_))
    refine ne_int (wpAny_truthy_bool ?_)
    rw [if_neg (by decide)]
    refine isTrue_or_nil ?_
    rw [if_neg (by decide)]
    refine wpAny_execs_nil ?_
    have F₁₁ := F₁₀.keeps y11
    have hT11 := y11 _ _ (y9 _ _ hT9)
    have hK11 := y11 _ _ (y9 _ _ hK9)
    have hal11 := y11 _ _ (y9 _ _ hal9)
    have hI11 := y11 _ _ (y9 _ _ hI9)
    have hus' : us'.length ≤ 4 := by
      rw [IntsAre.length hus, List.length_take]; simp only [List.length_cons, List.length_nil]; omega
    refine wpAny_execs_cons (wpAny_Expr (ev_app (fun Q' q => ld F₁₁ m3 q) hT11 (by simpa using ht4) (spliced_more ?_)))
    refine ev_itemX (xs := [Value.ref a0, Value.ref a1, Value.ref a2, Value.ref a3]) (fun Q' q => ld F₁₁ m6 q) hal11 (fun Q' q => ld F₁₁ rfl q) (by omega) (by omega) (v := .ref (pk a0 a1 a2 a3 i)) (by simpa using hv) ?_
    refine spliced_none ⟨_, _, _, rfl, rfl, hT11, fun h₁₂ x12 hT12 => ?_⟩
    have F₁₂ := fr_ex F₁₁ (Ex.sameBut x12) (by simpa using Ne.symm nT') (by simpa using zT)
    have hK12 := Ex.sameBut x12 _ _ (by simpa using Ne.symm apTK) hK11
    have hI12 := Ex.sameBut x12 _ _ (by simpa using Ne.symm hIT) hI11
    refine wpAny_execs_cons (wpAny_Expr (ev_app (fun Q' q => ld F₁₂ m4 q) hK12 (by simp; omega) (spliced_more (ld F₁₂ rfl ?_))))
    refine spliced_none ⟨_, _, _, rfl, rfl, hK12, fun h₁₃ x13 hK13 => ?_⟩
    have F₁₃ := fr_ex F₁₂ (Ex.sameBut x13) (by simpa using Ne.symm nK') (by simpa using zK)
    have hT13 := Ex.sameBut x13 _ _ (by simpa using apTK) hT12
    have hI13 := Ex.sameBut x13 _ _ (by simpa using Ne.symm hIK) hI12
    refine wpAny_execs_nil ⟨_, _, rfl, ⟨_, F₁₃, m1, m2, m3, m4, m5, m6, hI0, ?_, ?_, ?_⟩, ?_⟩
    · exact ((e510.trans (Ex.of_stays y11)).trans ((Ex.sameBut x12).mono (by simp))).trans ((Ex.sameBut x13).mono (by simp))
    · refine ⟨nt + 1, hT13.trans ?_⟩
      rw [List.push_toArray, List.append_assoc]
      have h4 : i = 0 ∨ i = 1 ∨ i = 2 ∨ i = 3 := by omega
      rcases h4 with rfl | rfl | rfl | rfl <;> rfl
    · refine ⟨us' ++ [.int (i : Int) u], nk + 1, hK13.trans ?_, ?_⟩
      · rw [List.push_toArray, List.append_assoc]
      · have h4 : i = 0 ∨ i = 1 ∨ i = 2 ∨ i = 3 := by omega
        have := ints_snoc hus (i : Int) u
        rcases h4 with rfl | rfl | rfl | rfl <;> exact this
    · rw [hoI]; exact hI13
  · rintro I h₆ h₇ t₇ ⟨m, F₆, m1, m2, m3, m4, m5, m6, hI0, e, ⟨nt, hT6⟩, us', nk, hK6, hus⟩ e7
    have hIL : I ≠ L := fr_ne F₅ hI0
    have hIT : aT ≠ I := ne_of (old hT) hI0
    have hIK : aK ≠ I := ne_of (old hK) hI0
    have F₇ : Fr h₀ L h₇ m := fr_ex F₆ e7 (by simpa using Ne.symm hIL) (by simpa using none_of F₅.keep hI0)
    have e57 : Ex [I, L, aT, aK] h₅ h₇ := e.trans (e7.mono (by simp))
    have hT7 := e7 _ _ (by simpa using hIT) hT6
    have hK7 := e7 _ _ (by simpa using hIK) hK6
    have hR7 := e57 _ _ (by simpa using ⟨ne_of (old hR) hI0, nR', apRT, apRK⟩) (old hR)
    have hD7 := e57 _ _ (by simpa using ⟨ne_of (old hD) hI0, nD', apDT, apDK⟩) (old hD)
    refine wpAny_execs_cons (wpAny_Expr (ev_app (fun Q' q => ld F₇ m1 q) hR7 (by simp; omega) (spliced_more (ld F₇ m5 ?_))))
    refine spliced_none ⟨_, _, _, rfl, rfl, hR7, fun h₈ x8 hR8 => ?_⟩
    have F₈ := fr_ex F₇ (Ex.sameBut x8) (by simpa using Ne.symm nR') (by simpa using zR)
    have hT8 := Ex.sameBut x8 _ _ (by simpa using Ne.symm apRT) hT7
    have hK8 := Ex.sameBut x8 _ _ (by simpa using Ne.symm apRK) hK7
    have hD8 := Ex.sameBut x8 _ _ (by simpa using Ne.symm apRD) hD7
    refine wpAny_execs_cons (wpAny_Expr (ev_app (fun Q' q => ld F₈ m2 q) hD8 (by simp; omega) (spliced_more (List_ (spliced_more ?_)))))
    have lenQ : ∀ {t' : Nat} {p1 p2 p3 : Pos} {Q' : Value → Shared → Prop} {E' : Value → Shared → Prop}, (∀ u, Q' (.int ((ts.length : Int) + 4) u) (St s h₈ (t' + 1 + 1))) → wpAny (model prog w) A' (eval (.Call (.Name "len" p1) [.Name "things" p2] [] p3) (envOf "_law_begin" scBeg L 456 (.ref 455))) Q' E' (St s h₈ t') := by
      intro t' p1 p2 p3 Q' E' q
      refine Call_ (name_B F₈ B.X B.T (by k_is) boot_len (by decide) ?_)
      refine PySem.callWith_builtin1 (ld F₈ m3 ?_)
      refine len_list (items := (ts ++ [Value.ref a0, Value.ref a1, Value.ref a2, Value.ref a3].take 4).toArray) ⟨_, hT8, rfl, _, rfl⟩ (by simp; omega) ?_
      have e : ((((ts ++ [Value.ref a0, Value.ref a1, Value.ref a2, Value.ref a3].take 4).toArray.size : Nat)) : Int) = (ts.length : Int) + 4 := by simp
      rw [e]
      exact q _
    refine wpAny_BinOp (lenQ fun _ => kI (sub_int (spliced_more ?_)))
    refine wpAny_BinOp (lenQ fun _ => kI (sub_int (spliced_more ?_)))
    refine wpAny_BinOp (lenQ fun _ => kI (sub_int (spliced_more ?_)))
    refine wpAny_BinOp (lenQ fun _ => kI (sub_int (spliced_none (newL ?_ (by simp)))))
    refine spliced_none ⟨_, _, _, rfl, rfl, stays_push _ _ _ _ hD8, fun h₉ x9 hD9 => ?_⟩
    have hqn := size_none h₈
    have qne : ∀ {b o}, h₈.get? b = some o → b ≠ h₈.objs.size := fun q => ne_of q hqn
    have e58 : Ex [I, L, aR, aT, aK] h₅ h₈ := (e57.mono (by simp)).trans ((Ex.sameBut x8).mono (by simp))
    have v8 : ∀ {b o}, h₁.get? b = none → h₅.get? b = some o → h₈.get? b = some o := fun z y => e58 _ _ (by
      simp only [List.mem_cons, List.not_mem_nil, or_false, not_or]
      exact ⟨ne_of y hI0, LL z, Ne.symm (ne_of (k₁ _ _ hR) z), Ne.symm (ne_of (k₁ _ _ hT) z), Ne.symm (ne_of (k₁ _ _ hK) z)⟩) y
    have v9 : ∀ {b o}, h₁.get? b = none → h₅.get? b = some o → h₉.get? b = some o := fun z y => Ex.sameBut x9 _ _ (by simpa using Ne.symm (ne_of (k₁ _ _ hD) z)) (stays_push _ _ _ _ (v8 z y))
    refine wpAny_execs_cons (wpAny_Return_some (Constant_bool ?_))
    refine k h₉ _ r d h₈.objs.size (pk a0 a1 a2 a3) (pk d0 d1 d2 d3) us' (nR + 1) (nD + 1) nt nk ⟨?_, ?_, ?_, ?_, ?_, ?_, ?_, ?_⟩ ?_ hus ?_ ?_ ?_ ?_
    · simp only [List.mem_cons, List.not_mem_nil, or_false, forall_eq_or_imp, forall_eq]
      refine ⟨none_of k₁ frr, none_of k₁ fd, ?_, none_of k₁ fa0, none_of k₁ fa1, none_of k₁ fa2, none_of k₁ fa3, none_of k₁ fd0, none_of k₁ fd1, none_of k₁ fd2, none_of k₁ fd3⟩
      cases z : h.get? h₈.objs.size with
      | none => rfl
      | some o =>
        have y := e58 _ o (by
          simp only [List.mem_cons, List.not_mem_nil, or_false, not_or]
          exact ⟨ne_of (old z) hI0, ne_of z hL, Ne.symm (qne hR8), Ne.symm (qne hT8), Ne.symm (qne hK8)⟩) (old z)
        rw [hqn] at y; cases y
    · refine nodup11 ord ?_
      simp only [List.mem_cons, List.not_mem_nil, or_false, forall_eq_or_imp, forall_eq]
      refine ⟨qne (v8 frr (v5 frr hr)), ?_, qne (v8 fa0 (v5 fa0 i0)), qne (v8 fa1 (v5 fa1 i1)), qne (v8 fa2 (v5 fa2 i2)), qne (v8 fa3 (v5 fa3 i3)), qne (v8 fd0 (v5 fd0 e0)), qne (v8 fd1 (v5 fd1 e1)), qne (v8 fd2 (v5 fd2 e2)), qne (v8 fd3 (v5 fd3 e3))⟩
      obtain ⟨k1, k2, k3, k4, t1, t2, t3, t4, n, q⟩ := hRD
      exact qne (v8 fd (v5 fd q))
    · exact v9 frr (v5 frr hr)
    · obtain ⟨k1, k2, k3, k4, t1, t2, t3, t4, n, q⟩ := hRD
      exact ⟨k1, k2, k3, k4, t1, t2, t3, t4, n, v9 fd (v5 fd q)⟩
    · refine ⟨_, _, Ex.sameBut x9 _ _ (by simpa using Ne.symm (qne hD8)) (Heap.get?_push_size h₈ (o := lstO (List.toArray _) 0) rfl), ?_⟩
      have c0 : (ts.length : Int) + 4 - 4 = ts.length := by omega
      have c1 : (ts.length : Int) + 4 - 3 = (ts.length : Int) + 1 := by omega
      have c2 : (ts.length : Int) + 4 - 2 = (ts.length : Int) + 2 := by omega
      have c3 : (ts.length : Int) + 4 - 1 = (ts.length : Int) + 3 := by omega
      rw [c0, c1, c2, c3]
      exact .cons _ _ (.cons _ _ (.cons _ _ (.cons _ _ .nil)))
    · exact fun j hj => v9 (fra j hj) (ins5 j hj)
    · exact ⟨kk, tt, n, v9 fd0 (v5 fd0 e0)⟩
    · intro j h0 hj
      have h4 : j = 1 ∨ j = 2 ∨ j = 3 := by omega
      rcases h4 with rfl | rfl | rfl
      · exact v9 fd1 (v5 fd1 e1)
      · exact v9 fd2 (v5 fd2 e2)
      · exact v9 fd3 (v5 fd3 e3)
    · intro b o nb z
      simp only [List.mem_cons, List.not_mem_nil, or_false, not_or] at nb
      refine Ex.sameBut x9 _ _ (by simpa using nb.2.1) (stays_push _ _ _ _ (e58 _ _ ?_ (old z)))
      simp only [List.mem_cons, List.not_mem_nil, or_false, not_or]
      exact ⟨ne_of (old z) hI0, ne_of z hL, nb.1, nb.2.2.1, nb.2.2.2⟩
    · have y := Ex.sameBut x9 _ _ (by simpa using apRD) (stays_push h₈ (lstO _ 0) _ _ hR8)
      rw [List.push_toArray] at y
      exact y
    · rw [List.push_toArray] at hD9
      exact hD9
    · exact Ex.sameBut x9 _ _ (by simpa using Ne.symm apDT) (stays_push _ _ _ _ hT8)
    · exact Ex.sameBut x9 _ _ (by simpa using Ne.symm apDK) (stays_push _ _ _ _ hK8)
end
end Mine
end
section
open PySem PySem.W PySem.W.X PyProof.Rows PySem.Calls
namespace Mine
/-- whose an address is -/
inductive Ro
  | L (i : Nat) | R (j : Nat) | D (j : Nat) | Q (j : Nat) | V (j : Nat) | X (j : Nat) | T (j : Nat)
structure Sg where
  aR : Addr
  aD : Addr
  aT : Addr
  aK : Addr
  rs : List Rd
  ts : List Value
  ks : List Nat
/-- the j-th thing, of kind k -/
def Th (ρ : Addr → Option Ro) (h : Heap) (j k : Nat) (v : Value) : Prop := match k with
  | 0 => ∃ a d kk tt n, v = .ref a ∧ h.get? a = some (inst 164 d) ∧ h.get? d = some (dct #[⟨kk, .str "_locator" tt, .none⟩] n) ∧ ρ a = some (.V j) ∧ ρ d = some (.X j)
  | 1 => ∃ a d, v = .ref a ∧ h.get? a = some (inst 192 d) ∧ h.get? d = some (dct #[] 0) ∧ ρ a = some (.V j) ∧ ρ d = some (.X j)
  | 2 => ∃ a d, v = .ref a ∧ h.get? a = some (inst 213 d) ∧ h.get? d = some (dct #[] 0) ∧ ρ a = some (.V j) ∧ ρ d = some (.X j)
  | 3 => ∃ a d, v = .ref a ∧ h.get? a = some (inst 52 d) ∧ h.get? d = some (dct #[] 0) ∧ ρ a = some (.V j) ∧ ρ d = some (.X j)
  | 4 => (v = .none ∧ j = 0) ∨ ∃ a n, v = .ref a ∧ h.get? a = some (lstO #[] n) ∧ ρ a = some (.V j)
  | 5 => ∃ e C dxo tup y o x T, v = .ref e ∧ Rz h e C dxo tup xr T .none ∧ AuxO C dxo tup y x o ∧ h.get? y = some o ∧ ρ e = some (.V j) ∧ ρ y = some (.X j) ∧ ρ T = some (.T j)
  | _ => False
structure Wd (h₀ : Heap) (ρ : Addr → Option Ro) (σ : Sg) (h : Heap) : Prop where
  live : ∀ a ro, ρ a = some ro → (∃ o, h.get? a = some o) ∧ h₀.get? a = none
  lR : ∃ n, h.get? σ.aR = some (lstO (σ.rs.map fun x => Value.ref x.r).toArray n)
  lD : ∃ n, h.get? σ.aD = some (lstO (σ.rs.map fun x => Value.ref x.q).toArray n)
  lT : ∃ n, h.get? σ.aT = some (lstO σ.ts.toArray n)
  lK : ∃ us n, h.get? σ.aK = some (lstO us.toArray n) ∧ IntsAre us (σ.ks.map fun k : Nat => (k : Int))
  pR : ρ σ.aR = some (.L 0)
  pD : ρ σ.aD = some (.L 1)
  pT : ρ σ.aT = some (.L 2)
  pK : ρ σ.aK = some (.L 3)
  rd : ∀ j x, σ.rs[j]? = some x → RdF h σ.ts x ∧ ρ x.r = some (.R j) ∧ ρ x.d = some (.D j) ∧ ρ x.q = some (.Q j)
  th : ∀ j v k, σ.ts[j]? = some v → σ.ks[j]? = some k → Th ρ h j k v
  len : σ.ks.length = σ.ts.length
  one : True
theorem Th.keep {ρ ρ' : Addr → Option Ro} {h h' : Heap} {j k : Nat} {v : Value} (x : Th ρ h j k v) (kp : ∀ a ro o, ρ a = some ro → (ro = .V j ∨ ro = .X j ∨ ro = .T j) → h.get? a = some o → h'.get? a = some o ∧ ρ' a = some ro) : Th ρ' h' j k v := by
  have hV : ∀ {a o}, ρ a = some (.V j) → h.get? a = some o → h'.get? a = some o ∧ ρ' a = some (.V j) := fun p q => kp _ _ _ p (.inl rfl) q
  have hX : ∀ {a o}, ρ a = some (.X j) → h.get? a = some o → h'.get? a = some o ∧ ρ' a = some (.X j) := fun p q => kp _ _ _ p (.inr (.inl rfl)) q
  have hT : ∀ {a o}, ρ a = some (.T j) → h.get? a = some o → h'.get? a = some o ∧ ρ' a = some (.T j) := fun p q => kp _ _ _ p (.inr (.inr rfl)) q
  unfold Th at *
  split at x
  · obtain ⟨a, d, kk, tt, n, e, ha, hd, pa, pd⟩ := x
    exact ⟨a, d, kk, tt, n, e, (hV pa ha).1, (hX pd hd).1, (hV pa ha).2, (hX pd hd).2⟩
  · obtain ⟨a, d, e, ha, hd, pa, pd⟩ := x
    exact ⟨a, d, e, (hV pa ha).1, (hX pd hd).1, (hV pa ha).2, (hX pd hd).2⟩
  · obtain ⟨a, d, e, ha, hd, pa, pd⟩ := x
    exact ⟨a, d, e, (hV pa ha).1, (hX pd hd).1, (hV pa ha).2, (hX pd hd).2⟩
  · obtain ⟨a, d, e, ha, hd, pa, pd⟩ := x
    exact ⟨a, d, e, (hV pa ha).1, (hX pd hd).1, (hV pa ha).2, (hX pd hd).2⟩
  · rcases x with x | ⟨a, n, e, ha, pa⟩
    · exact .inl x
    · exact .inr ⟨a, n, e, (hV pa ha).1, (hV pa ha).2⟩
  · obtain ⟨e, C, dxo, tup, y, o, x, T, hv, ⟨R1, R2, ts, R3, R4⟩, hA, hy, pe, py, pT⟩ := x
    exact ⟨e, C, dxo, tup, y, o, x, T, hv, ⟨(hV pe R1).1, R2, ts, (hT pT R3).1, R4⟩, hA, (hX py hy).1, (hV pe R1).2, (hX py hy).2, (hT pT R3).2⟩
  · exact x
theorem Th.thing {ρ : Addr → Option Ro} {h : Heap} {j k : Nat} {v : Value} (x : Th ρ h j k v) : Thing h k v := by
  unfold Th at x
  split at x
  · obtain ⟨a, d, kk, tt, n, e, ha, hd, _⟩ := x
    exact ⟨a, d, kk, tt, n, e, ha, hd⟩
  · obtain ⟨a, d, e, ha, hd, _⟩ := x
    exact ⟨a, d, e, ha, hd⟩
  · obtain ⟨a, d, e, ha, hd, _⟩ := x
    exact ⟨a, d, e, ha, hd⟩
  · obtain ⟨a, d, e, ha, hd, _⟩ := x
    exact ⟨a, d, e, ha, hd⟩
  · exact x.imp (fun z => z.1) fun ⟨a, n, e, ha, _⟩ => ⟨a, n, e, ha⟩
  · obtain ⟨e, C, dxo, tup, y, o, x, T, hv, R, hA, hy, _⟩ := x
    exact ⟨e, C, dxo, tup, y, o, x, T, hv, R, hA, hy⟩
  · exact x.elim
/-- a thing's address -/
theorem Th.at {ρ : Addr → Option Ro} {h : Heap} {j k : Nat} {v : Value} (x : Th ρ h j k v) : (v = .none ∧ j = 0) ∨ ∃ a o, v = .ref a ∧ h.get? a = some o ∧ o.cls ≠ .type "tuple" ∧ ρ a = some (.V j) := by
  unfold Th at x
  split at x
  · obtain ⟨a, d, kk, tt, n, e, ha, hd, pa, _⟩ := x
    exact .inr ⟨a, _, e, ha, by simp, pa⟩
  · obtain ⟨a, d, e, ha, hd, pa, _⟩ := x
    exact .inr ⟨a, _, e, ha, by simp, pa⟩
  · obtain ⟨a, d, e, ha, hd, pa, _⟩ := x
    exact .inr ⟨a, _, e, ha, by simp, pa⟩
  · obtain ⟨a, d, e, ha, hd, pa, _⟩ := x
    exact .inr ⟨a, _, e, ha, by simp, pa⟩
  · rcases x with x | ⟨a, n, e, ha, pa⟩
    · exact .inl x
    · exact .inr ⟨a, _, e, ha, by simp, pa⟩
  · obtain ⟨e, C, dxo, tup, y, o, x, T, hv, R, hA, hy, pe, _⟩ := x
    refine .inr ⟨e, _, hv, R.exc, ?_, pe⟩
    rcases hA with ⟨rfl | rfl, _⟩ | ⟨rfl, _⟩ <;> simp
  · exact x.elim
theorem RdF.keepR {h h' : Heap} {ts : List Value} {x : Rd} (q : RdF h ts x) (h1 : ∀ o, h.get? x.r = some o → h'.get? x.r = some o) (h2 : ∀ o, h.get? x.d = some o → h'.get? x.d = some o) (h3 : ∀ o, h.get? x.q = some o → h'.get? x.q = some o) : RdF h' ts x := by
  obtain ⟨a, ⟨k1, k2, k3, k4, t1, t2, t3, t4, n, b⟩, c, us, n', e, f⟩ := q
  exact ⟨h1 _ a, ⟨k1, k2, k3, k4, t1, t2, t3, t4, n, h2 _ b⟩, c, us, n', h3 _ e, f⟩
namespace Wd
variable {h₀ h h' : Heap} {ρ : Addr → Option Ro} {σ : Sg}
theorem keep (W : Wd h₀ ρ σ h) (kp : ∀ a ro o, ρ a = some ro → h.get? a = some o → h'.get? a = some o) : Wd h₀ ρ σ h' where
  live := fun a ro p => let ⟨⟨o, q⟩, z⟩ := W.live a ro p; ⟨⟨o, kp _ _ _ p q⟩, z⟩
  lR := let ⟨n, q⟩ := W.lR; ⟨n, kp _ _ _ W.pR q⟩
  lD := let ⟨n, q⟩ := W.lD; ⟨n, kp _ _ _ W.pD q⟩
  lT := let ⟨n, q⟩ := W.lT; ⟨n, kp _ _ _ W.pT q⟩
  lK := let ⟨us, n, q, r⟩ := W.lK; ⟨us, n, kp _ _ _ W.pK q, r⟩
  pR := W.pR
  pD := W.pD
  pT := W.pT
  pK := W.pK
  rd j x q := let ⟨a, b, c, d⟩ := W.rd j x q; ⟨a.keepR (fun _ => kp _ _ _ b) (fun _ => kp _ _ _ c) (fun _ => kp _ _ _ d), b, c, d⟩
  th j v k q r := (W.th j v k q r).keep fun a ro o p _ z => ⟨kp _ _ _ p z, p⟩
  len := W.len
  one := W.one
theorem ob (W : Wd h₀ ρ σ h) : ∀ v ∈ σ.ts, Ob h v := fun v hv => by
  obtain ⟨j, hj, rfl⟩ := List.getElem_of_mem hv
  have hk : j < σ.ks.length := by rw [W.len]; exact hj
  rcases (W.th j _ _ (List.getElem?_eq_getElem hj) (List.getElem?_eq_getElem hk)).at with ⟨e, _⟩ | ⟨a, o, e, ha, hc, _⟩
  · exact .inl e
  · exact .inr ⟨a, o, e, ha, hc⟩
theorem nd (W : Wd h₀ ρ σ h) : ∀ i j, i < σ.ts.length → j < σ.ts.length → σ.ts[i]? = σ.ts[j]? → i = j := fun i j hi hj e => by
  have hki : i < σ.ks.length := by rw [W.len]; exact hi
  have hkj : j < σ.ks.length := by rw [W.len]; exact hj
  rw [List.getElem?_eq_getElem hi, List.getElem?_eq_getElem hj] at e
  injection e with e
  have xi := (W.th i _ _ (List.getElem?_eq_getElem hi) (List.getElem?_eq_getElem hki)).at
  have xj := (W.th j _ _ (List.getElem?_eq_getElem hj) (List.getElem?_eq_getElem hkj)).at
  rw [e] at xi
  rcases xi with ⟨e1, z1⟩ | ⟨a, o, e1, _, _, p1⟩ <;> rcases xj with ⟨e2, z2⟩ | ⟨b, o', e2, _, _, p2⟩
  · rw [z1, z2]
  · rw [e1] at e2; cases e2
  · rw [e1] at e2; cases e2
  · rw [e1] at e2; cases e2; rw [p1] at p2; cases p2; rfl
theorem no (W : Wd h₀ ρ σ h) {b : Addr} (q : h.get? b = none) : ρ b = none := by
  cases z : ρ b with
  | none => rfl
  | some ro => obtain ⟨⟨o, ho⟩, _⟩ := W.live b ro z; rw [q] at ho; cases ho
/-- kept but for the four lists -/
theorem keepL (W : Wd h₀ ρ σ h) (x : Ex [σ.aR, σ.aD, σ.aT, σ.aK] h h') {a : Addr} {ro : Ro} {o : Obj} (p : ρ a = some ro) (n : ∀ i, ro ≠ .L i) (q : h.get? a = some o) : h'.get? a = some o := by
  refine x a o (fun z => ?_) q
  simp only [List.mem_cons, List.not_mem_nil, or_false] at z
  rcases z with rfl | rfl | rfl | rfl
  · rw [W.pR] at p; cases p; exact n _ rfl
  · rw [W.pD] at p; cases p; exact n _ rfl
  · rw [W.pT] at p; cases p; exact n _ rfl
  · rw [W.pK] at p; cases p; exact n _ rfl
end Wd
theorem RdF.more {h h' : Heap} {ts us : List Value} {x : Rd} (q : RdF h ts x) (h1 : ∀ o, h.get? x.r = some o → h'.get? x.r = some o) (h2 : ∀ o, h.get? x.d = some o → h'.get? x.d = some o) (h3 : ∀ o, h.get? x.q = some o → h'.get? x.q = some o) : RdF h' (ts ++ us) x := by
  obtain ⟨a, ⟨k1, k2, k3, k4, t1, t2, t3, t4, n, b⟩, c, us', n', e, f⟩ := q
  have g : ∀ i, i < 4 → (ts ++ us).getD (x.ix i) .none = ts.getD (x.ix i) .none := fun i hi => by
    rw [List.getD_eq_getElem?_getD, List.getD_eq_getElem?_getD, List.getElem?_append_left (c i hi)]
  refine ⟨h1 _ a, ⟨k1, k2, k3, k4, t1, t2, t3, t4, n, ?_⟩, fun i hi => by rw [List.length_append]; have := c i hi; omega, us', n', h3 _ e, f⟩
  dsimp only at b ⊢
  rw [g 0 (by decide), g 1 (by decide), g 2 (by decide), g 3 (by decide)]
  exact h2 _ b
def roB (r d q : Addr) (ad dd : Nat → Addr) (nr nt : Nat) (ρ : Addr → Option Ro) (b : Addr) : Option Ro :=
  if r = b then some (.R nr) else if d = b then some (.D nr) else if q = b then some (.Q nr) else if ad 0 = b then some (.V nt) else if ad 1 = b then some (.V (nt + 1)) else if ad 2 = b then some (.V (nt + 2)) else if ad 3 = b then some (.V (nt + 3)) else
  if dd 0 = b then some (.X nt) else if dd 1 = b then some (.X (nt + 1)) else if dd 2 = b then some (.X (nt + 2)) else if dd 3 = b then some (.X (nt + 3)) else ρ b
theorem roB_old {r d q : Addr} {ad dd : Nat → Addr} {nr nt : Nat} {ρ : Addr → Option Ro} {b : Addr} (n : ∀ c ∈ [r, d, q, ad 0, ad 1, ad 2, ad 3, dd 0, dd 1, dd 2, dd 3], c ≠ b) : roB r d q ad dd nr nt ρ b = ρ b := by
  simp only [List.mem_cons, List.not_mem_nil, or_false, forall_eq_or_imp, forall_eq] at n
  obtain ⟨n1, n2, n3, n4, n5, n6, n7, n8, n9, n10, n11⟩ := n
  unfold roB
  rw [if_neg n1, if_neg n2, if_neg n3, if_neg n4, if_neg n5, if_neg n6, if_neg n7, if_neg n8, if_neg n9, if_neg n10, if_neg n11]
theorem ints_app {vs us : List Value} {ns ms : List Int} (x : IntsAre vs ns) (y : IntsAre us ms) : IntsAre (vs ++ us) (ns ++ ms) := by
  induction x with
  | nil => exact y
  | cons a b _ ih => exact .cons _ _ ih
theorem Wd.begun {h₀ h h' : Heap} {ρ : Addr → Option Ro} {σ : Sg} (W : Wd h₀ ρ σ h) (b0 : h₀.StaysIn h) {r d q : Addr} {ad dd : Nat → Addr} {us us' : List Value} {nK nR' nD' nT' nK' : Nat} (Bg : Begun h h' σ.ts.length r d q ad dd) (x : Ex [σ.aR, σ.aD, σ.aT, σ.aK] h h') (hus : IntsAre us (σ.ks.map fun k : Nat => (k : Int)))
    (hus' : IntsAre us' [0, 1, 2, 3]) (h1 : h'.get? σ.aR = some (lstO ((σ.rs.map fun x => Value.ref x.r) ++ [Value.ref r]).toArray nR')) (h2 : h'.get? σ.aD = some (lstO ((σ.rs.map fun x => Value.ref x.q) ++ [Value.ref q]).toArray nD'))
    (h3 : h'.get? σ.aT = some (lstO (σ.ts ++ [Value.ref (ad 0), Value.ref (ad 1), Value.ref (ad 2), Value.ref (ad 3)]).toArray nT')) (h4 : h'.get? σ.aK = some (lstO (us ++ us').toArray nK')) :
    Wd h₀ (roB r d q ad dd σ.rs.length σ.ts.length ρ) { σ with rs := σ.rs ++ [⟨r, d, q, fun i => σ.ts.length + i⟩], ts := σ.ts ++ [Value.ref (ad 0), Value.ref (ad 1), Value.ref (ad 2), Value.ref (ad 3)], ks := σ.ks ++ [0, 1, 2, 3] } h' ∧
      (∀ b, roB r d q ad dd σ.rs.length σ.ts.length ρ b ≠ none → ρ b ≠ none ∨ h.get? b = none) := by
  have fr := Bg.fresh
  have old : ∀ {b o}, h.get? b = some o → roB r d q ad dd σ.rs.length σ.ts.length ρ b = ρ b := fun {b o} z => roB_old fun c hc e => by
    have := fr c hc; rw [e, z] at this; cases this
  have oldR : ∀ {b ro}, ρ b = some ro → roB r d q ad dd σ.rs.length σ.ts.length ρ b = some ro := fun {b ro} z => by
    obtain ⟨⟨o, ho⟩, _⟩ := W.live b ro z
    exact (old ho).trans z
  have ap := Bg.apart
  simp only [List.nodup_cons, List.mem_cons, List.not_mem_nil, or_false, not_or, List.nodup_nil, and_true, not_false_eq_true] at ap
  obtain ⟨⟨p1, p2, p3, p4, p5, p6, p7, p8, p9, p10⟩, ⟨q2, q3, q4, q5, q6, q7, q8, q9, q10⟩, ⟨r3, r4, r5, r6, r7, r8, r9, r10⟩, ⟨s4, s5, s6, s7, s8, s9, s10⟩, ⟨t5, t6, t7, t8, t9, t10⟩, ⟨u6, u7, u8, u9, u10⟩, ⟨v7, v8, v9, v10⟩, ⟨w8, w9, w10⟩, ⟨x9, x10⟩, y10⟩ := ap
  have e0 : roB r d q ad dd σ.rs.length σ.ts.length ρ r = some (.R σ.rs.length) := by simp [roB]
  have e1 : roB r d q ad dd σ.rs.length σ.ts.length ρ d = some (.D σ.rs.length) := by simp [roB, p1]
  have e2 : roB r d q ad dd σ.rs.length σ.ts.length ρ q = some (.Q σ.rs.length) := by simp [roB, p2, q2]
  have e3 : roB r d q ad dd σ.rs.length σ.ts.length ρ (ad 0) = some (.V σ.ts.length) := by simp [roB, p3, q3, r3]
  have e4 : roB r d q ad dd σ.rs.length σ.ts.length ρ (ad 1) = some (.V (σ.ts.length + 1)) := by simp [roB, p4, q4, r4, s4]
  have e5 : roB r d q ad dd σ.rs.length σ.ts.length ρ (ad 2) = some (.V (σ.ts.length + 2)) := by simp [roB, p5, q5, r5, s5, t5]
  have e6 : roB r d q ad dd σ.rs.length σ.ts.length ρ (ad 3) = some (.V (σ.ts.length + 3)) := by simp [roB, p6, q6, r6, s6, t6, u6]
  have e7 : roB r d q ad dd σ.rs.length σ.ts.length ρ (dd 0) = some (.X σ.ts.length) := by simp [roB, p7, q7, r7, s7, t7, u7, v7]
  have e8 : roB r d q ad dd σ.rs.length σ.ts.length ρ (dd 1) = some (.X (σ.ts.length + 1)) := by simp [roB, p8, q8, r8, s8, t8, u8, v8, w8]
  have e9 : roB r d q ad dd σ.rs.length σ.ts.length ρ (dd 2) = some (.X (σ.ts.length + 2)) := by simp [roB, p9, q9, r9, s9, t9, u9, v9, w9, x9]
  have e10 : roB r d q ad dd σ.rs.length σ.ts.length ρ (dd 3) = some (.X (σ.ts.length + 3)) := by simp [roB, p10, q10, r10, s10, t10, u10, v10, w10, x10, y10]
  have lv : ∀ c ∈ [r, d, q, ad 0, ad 1, ad 2, ad 3, dd 0, dd 1, dd 2, dd 3], ∃ o, h'.get? c = some o := by
    obtain ⟨k1, k2, k3, k4, t1, t2, t3, t4, n, hRD⟩ := Bg.dct
    obtain ⟨us3, n3, hq, _⟩ := Bg.row
    obtain ⟨kk, tt, n0, hd0⟩ := Bg.loc
    simp only [List.mem_cons, List.not_mem_nil, or_false, forall_eq_or_imp, forall_eq]
    exact ⟨⟨_, Bg.rd⟩, ⟨_, hRD⟩, ⟨_, hq⟩, ⟨_, Bg.ins 0 (by decide)⟩, ⟨_, Bg.ins 1 (by decide)⟩, ⟨_, Bg.ins 2 (by decide)⟩, ⟨_, Bg.ins 3 (by decide)⟩, ⟨_, hd0⟩, ⟨_, Bg.emp 1 (by decide) (by decide)⟩, ⟨_, Bg.emp 2 (by decide) (by decide)⟩, ⟨_, Bg.emp 3 (by decide) (by decide)⟩⟩
  have oldL : ∀ {b ro}, ρ b = some ro → ∃ o, h'.get? b = some o := fun {b ro} z => by
    obtain ⟨⟨o, ho⟩, _⟩ := W.live b ro z
    by_cases y : b ∈ [σ.aR, σ.aD, σ.aT, σ.aK]
    · simp only [List.mem_cons, List.not_mem_nil, or_false] at y
      rcases y with rfl | rfl | rfl | rfl
      · exact ⟨_, h1⟩
      · exact ⟨_, h2⟩
      · exact ⟨_, h3⟩
      · exact ⟨_, h4⟩
    · exact ⟨o, x b o y ho⟩
  have kp : ∀ {a ro o}, ρ a = some ro → (∀ i, ro ≠ .L i) → h.get? a = some o → h'.get? a = some o := fun p n q => W.keepL x p n q
  refine ⟨⟨?_, ⟨nR', ?_⟩, ⟨nD', ?_⟩, ⟨nT', h3⟩, ⟨us ++ us', nK', h4, ?_⟩, oldR W.pR, oldR W.pD, oldR W.pT, oldR W.pK, ?_, ?_, ?_, ?_⟩, ?_⟩
  · intro a ro p
    by_cases z : a ∈ [r, d, q, ad 0, ad 1, ad 2, ad 3, dd 0, dd 1, dd 2, dd 3]
    · exact ⟨lv a z, none_of b0 (fr a z)⟩
    · rw [roB_old (b := a) fun c hc e => z (by rw [← e]; exact hc)] at p
      exact ⟨oldL p, (W.live a ro p).2⟩
  · rw [List.map_append]; exact h1
  · rw [List.map_append]; exact h2
  · rw [List.map_append]
    exact ints_app hus hus'
  · intro j y hj
    dsimp only at hj
    by_cases hjl : j < σ.rs.length
    · rw [List.getElem?_append_left hjl] at hj
      obtain ⟨a, b, c, e⟩ := W.rd j y hj
      exact ⟨a.more (fun _ => kp b (fun _ => nofun)) (fun _ => kp c (fun _ => nofun)) (fun _ => kp e (fun _ => nofun)), oldR b, oldR c, oldR e⟩
    · rw [List.getElem?_append_right (by omega)] at hj
      have hj0 : j - σ.rs.length = 0 := by
        cases z : j - σ.rs.length with
        | zero => rfl
        | succ n => rw [z] at hj; cases hj
      rw [hj0] at hj
      have hjj : j = σ.rs.length := by omega
      cases hj
      subst hjj
      refine ⟨⟨Bg.rd, ?_, fun i hi => ?_, ?_⟩, e0, e1, e2⟩
      · obtain ⟨k1, k2, k3, k4, t1, t2, t3, t4, n, hRD⟩ := Bg.dct
        have g : ∀ i, (σ.ts ++ [Value.ref (ad 0), Value.ref (ad 1), Value.ref (ad 2), Value.ref (ad 3)]).getD (σ.ts.length + i) .none = [Value.ref (ad 0), Value.ref (ad 1), Value.ref (ad 2), Value.ref (ad 3)].getD i .none := fun i => by
          rw [List.getD_eq_getElem?_getD, List.getElem?_append_right (by omega), List.getD_eq_getElem?_getD, Nat.add_sub_cancel_left]
        refine ⟨k1, k2, k3, k4, t1, t2, t3, t4, n, ?_⟩
        dsimp only
        rw [g 0, g 1, g 2, g 3]
        exact hRD
      · rw [List.length_append]; simp only [List.length_cons, List.length_nil]; omega
      · obtain ⟨us3, n3, hq, hi3⟩ := Bg.row
        exact ⟨us3, n3, hq, by simpa using hi3⟩
  · intro j v k hv hk
    dsimp only at hv hk
    by_cases hjl : j < σ.ts.length
    · rw [List.getElem?_append_left hjl] at hv
      rw [List.getElem?_append_left (by rw [W.len]; exact hjl)] at hk
      refine (W.th j v k hv hk).keep fun a ro o p hr z => ⟨kp p (fun i e => ?_) z, oldR p⟩
      rw [e] at hr; rcases hr with y | y | y <;> cases y
    · rw [List.getElem?_append_right (by omega)] at hv
      rw [List.getElem?_append_right (by rw [W.len]; omega), W.len] at hk
      obtain ⟨i, rfl⟩ : ∃ i, j = σ.ts.length + i := ⟨j - σ.ts.length, by omega⟩
      rw [Nat.add_sub_cancel_left] at hv hk
      obtain ⟨kk, tt, n0, hd0⟩ := Bg.loc
      match i, hv, hk with
      | 0, hv, hk => cases hv; cases hk; exact ⟨_, _, kk, tt, n0, rfl, Bg.ins 0 (by decide), hd0, e3, e7⟩
      | 1, hv, hk => cases hv; cases hk; exact ⟨_, _, rfl, Bg.ins 1 (by decide), Bg.emp 1 (by decide) (by decide), e4, e8⟩
      | 2, hv, hk => cases hv; cases hk; exact ⟨_, _, rfl, Bg.ins 2 (by decide), Bg.emp 2 (by decide) (by decide), e5, e9⟩
      | 3, hv, hk => cases hv; cases hk; exact ⟨_, _, rfl, Bg.ins 3 (by decide), Bg.emp 3 (by decide) (by decide), e6, e10⟩
      | n + 4, hv, hk => cases hv
  · simp [W.len]
  · trivial
  · intro b hb
    by_cases z : b ∈ [r, d, q, ad 0, ad 1, ad 2, ad 3, dd 0, dd 1, dd 2, dd 3]
    · exact .inr (fr b z)
    · rw [roB_old (b := b) fun c hc e => z (by rw [← e]; exact hc)] at hb
      exact .inl hb
end Mine
end
section
open PySem PySem.W PySem.W.X PyProof.Rows PySem.Calls
namespace Mine
theorem fill20 : (fun (_ : OpenLaw) (_ : Params → Frag) => True) PySem.Challenge.rw_kl0193_01 hdK.heap_1 := by
  k_fill
  trivial
abbrev scDeed : Scope := { kind := ScopeKind.function, names := [(Str.ofString "x", NameKind.local), (Str.ofString "readers", NameKind.local), (Str.ofString "drawers", NameKind.local), (Str.ofString "things", NameKind.cell), (Str.ofString "kinds", NameKind.cell), (Str.ofString "deed", NameKind.local), (Str.ofString "rest", NameKind.local), (Str.ofString "at", NameKind.local), (Str.ofString "call", NameKind.local), (Str.ofString "words", NameKind.local), (Str.ofString "told", NameKind.local), (Str.ofString "due", NameKind.local), (Str.ofString "drawer", NameKind.local), (Str.ofString "thing", NameKind.local), (Str.ofString "there", NameKind.local), (Str.ofString "handler", NameKind.local), (Str.ofString "errors", NameKind.local), (Str.ofString "error", NameKind.local), (Str.ofString "event", NameKind.local), (Str.ofString "_law_begin", NameKind.globalImplicit), (Str.ofString "len", NameKind.globalImplicit), (Str.ofString "_law_words", NameKind.globalImplicit), (Str.ofString "_law_refused", NameKind.globalImplicit), (Str.ofString "str", NameKind.globalImplicit), (Str.ofString "isinstance", NameKind.globalImplicit), (Str.ofString "SAXReaderNotAvailable", NameKind.globalImplicit), (Str.ofString "_law_set", NameKind.globalImplicit), (Str.ofString "_law_still", NameKind.globalImplicit), (Str.ofString "_law_lies", NameKind.globalImplicit), (Str.ofString "range", NameKind.globalImplicit), (Str.ofString "_law_handed", NameKind.globalImplicit), (Str.ofString "_law_event", NameKind.globalImplicit)], isGenerator := false, isCoroutine := false, more := [(Str.ofString "fast", Const.str "x"), (Str.ofString "fast", Const.str "readers"), (Str.ofString "fast", Const.str "drawers"), (Str.ofString "fast", Const.str "things"), (Str.ofString "fast", Const.str "kinds"), (Str.ofString "fast", Const.str "deed"), (Str.ofString "fast", Const.str "rest"), (Str.ofString "fast", Const.str "at"), (Str.ofString "fast", Const.str "call"), (Str.ofString "fast", Const.str "words"), (Str.ofString "fast", Const.str "told"), (Str.ofString "fast", Const.str "due"), (Str.ofString "fast", Const.str "drawer"), (Str.ofString "fast", Const.str "thing"), (Str.ofString "fast", Const.str "there"), (Str.ofString "fast", Const.str "handler"), (Str.ofString "fast", Const.str "k"), (Str.ofString "fast", Const.str "errors"), (Str.ofString "fast", Const.str "error"), (Str.ofString "fast", Const.str "event")] }
abbrev dE (L : Addr) : Env := envX "_law_deed" scDeed L 487 (.ref 486) (cellsFrom (L + 1) scDeed.names [])
/-- where a deed stands: e the heap at its entry, fs the frames outside -/
structure Dx (fs : List Addr) (h₀ e : Heap) (ρ : Addr → Option Ro) (σ : Sg) (L : Addr) (h : Heap) (m : Str → Option Value) : Prop where
  F : Fr h₀ L h m
  W : Wd h₀ ρ σ h
  cT : h.IsCell (L + 1) (some (.ref σ.aT))
  cK : h.IsCell (L + 2) (some (.ref σ.aK))
  mR : m "readers" = some (.ref σ.aR)
  mD : m "drawers" = some (.ref σ.aD)
  k : Chg fs (fun _ => False) e h
  n0 : e.get? L = none
  pL : ρ L = none
  nC : L ∉ fs ∧ L + 1 ∉ fs ∧ L + 2 ∉ fs
theorem Dx.stays {fs : List Addr} {h₀ e : Heap} {ρ : Addr → Option Ro} {σ : Sg} {L : Addr} {h h' : Heap} {m : Str → Option Value} (D : Dx fs h₀ e ρ σ L h m) (k : h.StaysIn h') : Dx fs h₀ e ρ σ L h' m :=
  ⟨D.F.keeps k, D.W.keep fun _ _ _ _ q => k _ _ q, D.cT.keeps k, D.cK.keeps k, D.mR, D.mD, D.k.stays_right k, D.n0, D.pL, D.nC⟩
theorem neT (L : Addr) : L + 1 ≠ L := Nat.ne_of_gt (Nat.lt_succ_self _)
theorem neK (L : Addr) : L + 2 ≠ L := Nat.ne_of_gt (Nat.lt_succ_of_lt (Nat.lt_succ_self _))
theorem Dx.set {fs : List Addr} {h₀ e : Heap} {ρ : Addr → Option Ro} {σ : Sg} {L : Addr} {h h' : Heap} {m m' : Str → Option Value} (D : Dx fs h₀ e ρ σ L h m) (F' : Fr h₀ L h' m') (x : Ex [L] h h') (hR : m' "readers" = m "readers") (hD : m' "drawers" = m "drawers") : Dx fs h₀ e ρ σ L h' m' where
  F := F'
  W := D.W.keep fun a _ _ p q => x a _ (by simp only [List.mem_singleton]; rintro rfl; rw [D.pL] at p; cases p) q
  cT := let ⟨o, ho, z⟩ := D.cT; ⟨o, x _ _ (by simp) ho, z⟩
  cK := let ⟨o, ho, z⟩ := D.cK; ⟨o, x _ _ (by simp) ho, z⟩
  mR := hR.trans D.mR
  mD := hD.trans D.mD
  k := ((D.k.mono (X' := fun b => b = L) fun _ _ _ z => z.elim).trans (Chg.of_ex (fs := fs) x fun l hl z => D.nC.1 (by rw [List.mem_singleton.mp z] at hl; exact hl)) (fun b o q z => List.mem_singleton.mp z)).mono fun b o q z => by
      rw [z, D.n0] at q; cases q
  n0 := D.n0
  pL := D.pL
  nC := D.nC
theorem Dx.chg {fs : List Addr} {h₀ e : Heap} {ρ : Addr → Option Ro} {σ : Sg} {L : Addr} {h h' : Heap} {m : Str → Option Value} (D : Dx fs h₀ e ρ σ L h m) (c : Chg (L :: fs) (fun _ => False) h h') (hb : ∀ l ∈ fs, h₀.get? l = none) (hρ : ∀ l ∈ fs, ρ l = none) : Dx fs h₀ e ρ σ L h' m where
  F := fr_chg D.F c (fun _ z => z.elim) hb
  W := D.W.keep fun a _ _ p q => c.keep a _ (fun z => by
      rcases List.mem_cons.mp z with rfl | z
      · rw [D.pL] at p; cases p
      · rw [hρ a z] at p; cases p) id q
  cT := let ⟨o, ho, z⟩ := D.cT; ⟨o, c.keep _ _ (fun y => (List.mem_cons.mp y).elim (neT L) D.nC.2.1) id ho, z⟩
  cK := let ⟨o, ho, z⟩ := D.cK; ⟨o, c.keep _ _ (fun y => (List.mem_cons.mp y).elim (neK L) D.nC.2.2) id ho, z⟩
  mR := D.mR
  mD := D.mD
  k := ((D.k.mono (X' := fun b => b = L) fun _ _ _ z => z.elim).trans c.pop fun b o q z => z.elim id False.elim).mono fun b o q z => by
      rw [z, D.n0] at q; cases q
  n0 := D.n0
  pL := D.pL
  nC := D.nC
section
variable {prog : Program} {w : World} {mg mb : Str → Option Value} {A : Around} {E : Value → Shared → Prop} {s : Shared} {h h₀ e : Heap} {t : Nat} {outer : List Env} {ρ : Addr → Option Ro} {σ : Sg} {L : Addr} {m : Str → Option Value}
/-- x, y = e1, e2 -/
theorem asg2 {env : Env} {x y : Str} {e1 e2 : Expr} {p1 p2 tp vp pos : Pos} {k1 k2 : Nat} {rest : List Stmt} {Q : Flow → Shared → Prop} (hh : A.handled = none)
    (k : wpAny (model prog w) A (eval e1 env) (fun v1 s1 => wpAny (model prog w) A (eval e2 env) (fun v2 s2 => ∃ h2 t2, s2 = St s h2 t2 ∧ ∀ h3, h2.StaysIn h3 → wpAny (model prog w) A (storeName env y v2) (fun _ s3 => wpAny (model prog w) A (storeName env x v1) (fun _ s4 => wpAny (model prog w) A (execs rest env) Q E s4) E s3) E (St s h3 t2)) E s1) E (St s h t))
    (he : starEach [e1, e2] env = (false, eval e1 env) :: starEach [e2] env := by rfl) (he' : starEach [e2] env = (false, eval e2 env) :: starEach [] env := by rfl)
    (hs : swapsWithSole [.Tuple [.Name x p1, .Name y p2] k1 tp] (.Tuple [e1, e2] k2 vp) pos.line env = pure false := by rfl)
    (hw : swappedStores [.Tuple [.Name x p1, .Name y p2] k1 tp] (.Tuple [e1, e2] k2 vp) env = pure (some [x, y]) := by rfl) :
    wpAny (model prog w) A (execs (.Assign [.Tuple [.Name x p1, .Name y p2] k1 tp] (.Tuple [e1, e2] k2 vp) pos :: rest) env) Q E (St s h t) := by
  refine wpAny_execs_cons (Assign_Tuple_swapped ?_ hs hw)
  refine Tuple_ (spliced_more (wpAny_mono k (fun v1 s1 q => spliced_more (wpAny_mono q (fun v2 s2 q => spliced_none ?_) fun _ _ x => x) he') fun _ _ x => x) he)
  obtain ⟨h2, t2, rfl, k⟩ := q
  refine wpAny_newTuple ?_ (by rw [sizeLine_eq]; simp)
  have ht := Heap.get?_push_size h2 (o := { cls := .type "tuple", data := .seq [v1, v2].toArray }) rfl
  have hk := stays_push h2 { cls := .type "tuple", data := .seq [v1, v2].toArray }
  generalize h2.objs.size = a at *
  refine unpackItems_tuple (t := a) (items := [v1, v2].toArray) hh ⟨_, ht, rfl, _, rfl⟩ fun h3 x3 => ?_
  have k3 : h2.StaysIn h3 := fun b o q => x3 b o (Nat.ne_of_lt (Heap.lt_size (hk _ _ q))) (hk _ _ q)
  show wpAny _ _ (assignInOrder [fun v => bindName env y v, fun v => bindName env x v] [v2, v1]) _ _ _
  refine assignInOrder_cons (bindName_ (wpAny_mono (k h3 k3) (fun _ s3 q => ?_) fun _ _ x => x))
  refine assignInOrder_cons (bindName_ (wpAny_mono q (fun _ s4 q => ?_) fun _ _ x => x))
  exact assignInOrder_nil q
/-- len(x) -/
theorem ev_lenX (B : Base0 w mg mb h₀) {cn : Str} {cs : Scope} {cl : List (Str × Addr)} {f : Addr} {cd : Value} {x : Str} {a n : Nat} {xs : List Value} {p2 p3 p4 : Pos} {Q : Value → Shared → Prop}
    (F : Fr h₀ L h m) (hm : ∀ Q' : Value → Shared → Prop, Q' (.ref a) (St s h t) → wpAny (model prog w) A (eval (.Name x p3) (envX cn cs L f cd cl)) Q' E (St s h t)) (ha : h.get? a = some (lstO xs.toArray n)) (hn : xs.length ≤ 100000)
    (k : ∀ u t', Q (.int (xs.length : Int) u) (St s h t'))
    (hk : cs.kind = .function := by rfl) (hl : (envX cn cs L f cd cl).kindOf "len" = some .globalImplicit := by rfl) :
    wpAny (model prog w) A (eval (.Call (.Name "len" p2) [.Name x p3] [] p4) (envX cn cs L f cd cl)) Q E (St s h t) := by
  refine Call_ (nameX_B F B.X B.T (by k_is) boot_len (by decide) ?_ hk hl (by decide))
  refine PySem.callWith_builtin1 (hm _ ?_)
  refine len_list (items := xs.toArray) ⟨_, ha, rfl, _, rfl⟩ (by simp; omega) ?_
  rw [show ((xs.toArray.size : Nat) : Int) = ((xs.length : Nat) : Int) by simp]
  exact k _ _
end
end Mine
end
section
open PySem PySem.W PySem.W.X PyProof.Rows PySem.Calls
namespace Mine
theorem fill21 : (fun (_ : OpenLaw) (_ : Params → Frag) => True) PySem.Challenge.rw_kl0193_01 hdK.heap_1 := by
  k_fill
  trivial
/-- what a deed leaves -/
structure Out (h₀ h : Heap) (ρ : Addr → Option Ro) (σ : Sg) (fs : List Addr) (h' : Heap) (ρ' : Addr → Option Ro) (σ' : Sg) : Prop where
  W : Wd h₀ ρ' σ' h'
  aR : σ'.aR = σ.aR
  aD : σ'.aD = σ.aD
  aT : σ'.aT = σ.aT
  aK : σ'.aK = σ.aK
  lt : σ'.ts.length ≤ σ.ts.length + 4
  lr : σ'.rs.length ≤ σ.rs.length + 1
  lo : σ.rs.length ≤ σ'.rs.length
  five : 5 ∈ σ.ks → 5 ∈ σ'.ks
  c : Chg fs (fun b => ρ b ≠ none) h h'
  nw : ∀ b, ρ' b ≠ none → ρ b ≠ none ∨ h.get? b = none
section
variable {prog : Program} {w : World} {mg mb : Str → Option Value} {A : Around} {E : Value → Shared → Prop} {s : Shared} {h h₀ : Heap} {t : Nat} {outer : List Env} {ρ : Addr → Option Ro} {σ : Sg}
set_option maxHeartbeats 4000000 in
theorem deed4_spec (B : Base0 w mg mb h₀) (b : Bs h₀ h) (am : Am A 330 1200) (hfr : A.frames = some outer) (hl : h.FunFrames {} outer) (hb : ∀ l ∈ frs outer, h₀.get? l = none) (hρ : ∀ l ∈ frs outer, ρ l = none) (W : Wd h₀ ρ σ h) (lt : σ.ts.length ≤ 800) (lr : σ.rs.length ≤ 800) (r1 : 1 ≤ σ.rs.length) {x : Int} {tx : Tok} (hx : x.fmod 5 = 4) {Q : Value → Shared → Prop}
    (k : ∀ h' t' ρ' σ', Out h₀ h ρ σ (frs outer) h' ρ' σ' → Q (.bool true) (St s h' t')) :
    wpAny (model prog w) A (call (.ref 487) [.int x tx, .ref σ.aR, .ref σ.aD, .ref σ.aT, .ref σ.aK]) Q E (St s h t) := by
  refine wpAny_call (enterC B b am (binds := [("x", .int x tx), ("readers", .ref σ.aR), ("drawers", .ref σ.aD), ("things", .ref σ.aT), ("kinds", .ref σ.aK)]) (by k_is) (by k_is) rfl ?_ (fun h₁ t₁ F k₁ hc => ?_))
  · intro L x hx
    simp only [List.mem_cons, List.not_mem_nil, or_false] at hx
    rcases hx with rfl | rfl | rfl | rfl | rfl
    · exact .inl rfl
    · exact .inl rfl
    · exact .inl rfl
    · exact .inr ⟨rfl, rfl⟩
    · exact .inr ⟨rfl, rfl⟩
  have hLn := size_none h
  have hn1 : h.get? (h.objs.size + 1) = none := Heap.get?_none_of_le (by omega)
  have hn2 : h.get? (h.objs.size + 2) = none := Heap.get?_none_of_le (by omega)
  have hc0 : h₁.IsCell (h.objs.size + 1) (some (.ref σ.aT)) := hc "things" _ rfl
  have hc1 : h₁.IsCell (h.objs.size + 2) (some (.ref σ.aK)) := hc "kinds" _ rfl
  have hF : Fr h₀ h.objs.size h₁ (fun y => if y = "drawers" then some (.ref σ.aD) else if y = "readers" then some (.ref σ.aR) else if y = "x" then some (.int x tx) else none) := F
  clear hc F
  generalize h.objs.size = L at *
  refine wpAny_mono ?_ (fun _ _ x => x) (fun _ _ (x : False) => x.elim)
  change wpAny (model prog w) (A.deeper (dE L)) (execs _ (dE L)) _ _ _
  have am' : Am (A.deeper (dE L)) 331 1203 := am.deeper _
  have hfr' := Around.frames_deeper (env := dE L) hfr
  generalize A.deeper _ = A' at *
  have D₁ : Dx (frs outer) h₀ h ρ σ L h₁ _ := ⟨hF, W.keep fun _ _ _ _ q => k₁ _ _ q, hc0, hc1, rfl, rfl, Chg.of_stays k₁, hLn, W.no hLn, funF_not hl hLn, funF_not hl hn1, funF_not hl hn2⟩
  clear hF hc0 hc1
  refine asg2 am'.handled (wpAny_BinOp (ldX D₁.F rfl (kI (modS (by decide) fun dv ed d0 d5 => ?_))))
  refine wpAny_BinOp (ldX D₁.F rfl (kI (divS (by decide) (by decide) fun rv er => ⟨_, _, rfl, fun h₂ k₂ => ?_⟩)))
  have D₂ := D₁.stays k₂
  refine stX D₂.F fun h₃ F₃ x₃ => stX F₃ fun h₄ F₄ x₄ => ?_
  have D₄ := (D₂.set F₃ x₃ rfl rfl).set F₄ x₄ rfl rfl
  clear D₁ D₂
  rw [hx] at ed
  subst ed
  refine wpAny_execs_cons (wpAny_If (wpAny_isTrue_Compare1 (ldX D₄.F rfl (kI (eq_int (wpAny_truthy_bool ?_))))))
  rw [if_pos (by decide)]
  refine wpAny_execs_cons (wpAny_Return_some ?_)
  refine Call_ (nameX_K D₄.F B.X B.T (by k_is) (callWith_K ((Bs.of D₄.F).in B) (by k_is) (spliced_more (ldX D₄.F D₄.mR (spliced_more (ldX D₄.F D₄.mD (spliced_more (ldC rfl D₄.cT (spliced_more (ldC rfl D₄.cK (spliced_none ⟨(Bs.of D₄.F).in B, ?_⟩)))))))))))
  have W₄ := D₄.W
  obtain ⟨nR, hR⟩ := W₄.lR
  obtain ⟨nD, hD⟩ := W₄.lD
  obtain ⟨nT, hT⟩ := W₄.lT
  obtain ⟨us, nK, hK, hus⟩ := W₄.lK
  have hul : us.length = σ.ts.length := by rw [IntsAre.length hus, List.length_map, W.len]
  have zl : ∀ {a ro}, ρ a = some ro → h₀.get? a = none := fun p => (W.live _ _ p).2
  have ne : ∀ {a c : Addr} {i j : Nat}, ρ a = some (.L i) → ρ c = some (.L j) → i ≠ j → a ≠ c := fun p q n e => by
    rw [e, q] at p; cases p; exact n rfl
  refine begin_spec B (Bs.of D₄.F) am'.mono hR hD hT hK (by simp; omega) (by simp; omega) (by omega) (by omega) (zl W.pR) (zl W.pD) (zl W.pT) (zl W.pK) ?_ W₄.ob ?_
  · simp only [List.nodup_cons, List.mem_cons, List.not_mem_nil, or_false, not_or, List.nodup_nil, and_true, not_false_eq_true]
    exact ⟨⟨ne W.pR W.pD (by decide), ne W.pR W.pT (by decide), ne W.pR W.pK (by decide)⟩, ⟨ne W.pD W.pT (by decide), ne W.pD W.pK (by decide)⟩, ne W.pT W.pK (by decide)⟩
  · intro h' t' r d q ad dd us' nR' nD' nT' nK' Bg xx hus' h1 h2 h3 h4
    obtain ⟨W', nw⟩ := W₄.begun (nK := 0) (Bs.of D₄.F).keep Bg xx hus hus' h1 h2 h3 h4
    have zz : ∀ c, c ∈ [σ.aR, σ.aD, σ.aT, σ.aK] → ρ c ≠ none := fun c z => by
      simp only [List.mem_cons, List.not_mem_nil, or_false] at z
      rcases z with rfl | rfl | rfl | rfl
      · rw [W.pR]; nofun
      · rw [W.pD]; nofun
      · rw [W.pT]; nofun
      · rw [W.pK]; nofun
    refine k h' t' _ _ ⟨W', rfl, rfl, rfl, rfl, by simp, by simp, by simp, fun z => List.mem_append_left _ z, ?_, fun c hc => (nw c hc).imp id D₄.k.none⟩
    exact ((D₄.k.mono (X' := fun c => c ∈ [σ.aR, σ.aD, σ.aT, σ.aK]) fun _ _ _ z => z.elim).trans (Chg.of_ex (fs := frs outer) xx fun l hl' z => zz l z (hρ l hl')) fun _ _ _ z => z).mono fun c _ _ z => zz c z
end
end Mine
end
section
open PySem PySem.W PySem.W.X PyProof.Rows PySem.Calls
namespace Mine
theorem fill23 : (fun (_ : OpenLaw) (_ : Params → Frag) => True) PySem.Challenge.rw_kl0193_01 hdK.heap_1 := by
  k_fill
  trivial
theorem boot_str : bootBuiltins "str" = some (.type "str") := by decide +kernel
section
variable {prog : Program} {w : World} {mg mb : Str → Option Value} {A : Around} {E : Value → Shared → Prop} {s : Shared} {h h₀ : Heap} {t : Nat}
theorem method_exc {G : String} {x C f : Addr} {ox : Obj} {od : Obj} {name : Str} {pl : Sem Bool} {Q : Value × List Value → Shared → Prop} (X : (hdK.heap_1 w.params).In h) (I : InstAt h x ox C (some od)) (hcan : (Manifest.canonical G != "object.__getattribute__") = false)
    (hga : findIn (hdK.heap_1 w.params) (.ref C) "__getattribute__" = some (some (.builtin G))) (hk : findIn (hdK.heap_1 w.params) (.ref C) "__getattr__" = some none)
    (hf : findIn (hdK.heap_1 w.params) (.ref C) name = some (some (.ref f))) (ht : typeIn (hdK.heap_1 w.params) (.ref f) = some (.type "function")) (hs : lookIn name od = some none) (q : Q (.ref f, [.ref x]) (St s h t)) :
    wpAny (model prog w) A (getMethod (.ref x) name pl) Q E (St s h t) := by
  unfold getMethod specialOf
  have T0 := I.type (M := model prog w)
  refine wpAny_bind (wpAny_bind (T0.here ((looks_findIn X hga).here ?_)))
  dsimp only
  rw [hcan, if_neg (by decide)]
  refine wpAny_bind (wpAny_bind (T0.here ((looks_findIn X hk).here ?_)))
  refine wpAny_bind (wpAny_bind (T0.here ((looks_findIn X hf).here (wpAny_bind ((looks_typeIn X ht).here ?_)))))
  rw [if_neg (by decide +kernel)]
  refine wpAny_bind (wpAny_loadPart I.at_ ?_)
  have hd := I.dict
  cases e : ox.dict with
  | none => exact wpAny_bind (wpAny_rule (wpAny_pure q))
  | some dx =>
    rw [e] at hd
    refine wpAny_bind (wpAny_bind (wpAny_loadPart hd ?_))
    rw [nsLook_of hs]
    refine wpAny_pure ?_
    exact wpAny_bind (wpAny_rule (wpAny_pure q))
theorem err_str (X : (hdK.heap_1 w.params).In h) (am : Am A 500 2000) {e T y : Addr} {C tup : Value} {dxo : Option Addr} {x : Str} {o : Obj} (R : Rz h e C dxo tup xr T .none) (hA : AuxO C dxo tup y x o) (hy : h.get? y = some o) {Q : Value → Shared → Prop}
    (k : ∀ h' t' tk, h.StaysIn h' → Q (.str x tk) (St s h' t')) : wpAny (model prog w) A (call (.type "str") [.ref e]) Q E (St s h t) := by
  have fin : ∀ v h' tk, h.StaysIn h' → (∃ tk, v = Value.str x tk) → Q v (St s h' tk) := fun v h' tk kk ⟨tk', e⟩ => by subst e; exact k _ _ _ kk
  rcases hA with ⟨rfl | rfl, rfl, k1, k2, t1, t2, n, tx, rfl⟩ | ⟨rfl, rfl, rfl, tx, rfl⟩
  · exact Lf.use2 (lift am (strRec_leafV X R.exc ⟨k1, k2, t1, t2, n, hy⟩)) fin
  · exact Lf.use2 (lift am (strSup_leafV X R.exc ⟨k1, k2, t1, t2, n, hy⟩)) fin
  · exact Lf.use2 (lift am (strNie_leaf X R.exc hy)) fin
theorem err_isi (X : (hdK.heap_1 w.params).In h) (am : Am A 500 2000) {e T y : Addr} {C tup : Value} {dxo : Option Addr} {x : Str} {o : Obj} (R : Rz h e C dxo tup xr T .none) (hA : AuxO C dxo tup y x o) {Q : Value → Shared → Prop}
    (k : ∀ h' t', h.StaysIn h' → Q (.bool false) (St s h' t')) : wpAny (model prog w) A (call (.builtin "isinstance") [.ref e, .ref 300]) Q E (St s h t) := by
  have fin : ∀ v h' tk, h.StaysIn h' → v = Value.bool false → Q v (St s h' tk) := fun v h' tk kk e => by subst e; exact k _ _ kk
  rcases hA with ⟨rfl | rfl, rfl, k1, k2, t1, t2, n, tx, rfl⟩ | ⟨rfl, rfl, rfl, tx, rfl⟩
  · exact Lf.use2 (lift am (isiERec_leafV X R.exc)) fin
  · exact Lf.use2 (lift am (isiESup_leafV X R.exc)) fin
  · exact Lf.use2 (lift am (isiENie_leaf X R.exc)) fin
/-- told[1].getMessage() and told[1].getException() -/
theorem err_meth {env : Env} {pl : Sem Bool} {o : Expr} {p2 pos : Pos} (X : (hdK.heap_1 w.params).In h) (am : Am A 500 2000) {e T y : Addr} {C tup : Value} {dxo : Option Addr} {x : Str} {oy : Obj} (R : Rz h e C dxo tup xr T .none) (hA : AuxO C dxo tup y x oy) (hy : h.get? y = some oy) (hC : C = .ref 276 ∨ C = .ref 288) {Q : Value → Shared → Prop} {msg : Bool}
    (hm : ∀ Q' : Value → Shared → Prop, (∀ t', Q' (.ref e) (St s h t')) → wpAny (model prog w) A (eval o env) Q' E (St s h t))
    (k : ∀ h' t', h.StaysIn h' → ∀ tk, Q (if msg then .str x tk else .none) (St s h' t'))
    (hev : eval (.Call (.Attribute o (if msg then "getMessage" else "getException") p2) [] [] pos) env = (do
      let ov ← eval o env
      standAt p2.atName
      let (f', first) ← holding [ov] (getMethod ov (if msg then "getMessage" else "getException") pl)
      callWith pos f' first (backTo pos (starEach [] env)) [])) :
    wpAny (model prog w) A (eval (.Call (.Attribute o (if msg then "getMessage" else "getException") p2) [] [] pos) env) Q E (St s h t) := by
  refine MethodCall_ (hm _ fun t' => ?_) hev
  rcases hA with ⟨_, rfl, k1, k2, t1, t2, n, tx, rfl⟩ | ⟨rfl, _⟩
  · rcases hC with rfl | rfl <;> cases msg
    · refine method_exc (f := 246) (od := dct #[⟨k1, .str "_msg" t1, .str x tx⟩, ⟨k2, .str "_exception" t2, .none⟩] n) X ⟨R.exc, rfl, rfl, hy⟩ (by decide +kernel) mc276.ga mc276.gk (by k_is) (by k_is) (by rfl) ?_
      refine callWith_K0 X (by k_is) (Lf.use2 (lift am (excRec_leafV X R.exc ⟨k1, k2, t1, t2, n, hy⟩)) fun v h' tk kk z => ?_)
      subst z; exact k h' tk kk 0
    · refine method_exc (f := 239) (od := dct #[⟨k1, .str "_msg" t1, .str x tx⟩, ⟨k2, .str "_exception" t2, .none⟩] n) X ⟨R.exc, rfl, rfl, hy⟩ (by decide +kernel) mc276.ga mc276.gk (by k_is) (by k_is) (by rfl) ?_
      refine callWith_K0 X (by k_is) (Lf.use2 (lift am (msgRec_leafV X R.exc ⟨k1, k2, t1, t2, n, hy⟩)) fun v h' tk kk z => ?_)
      obtain ⟨tk', rfl⟩ := z; exact k h' tk kk tk'
    · refine method_exc (f := 246) (od := dct #[⟨k1, .str "_msg" t1, .str x tx⟩, ⟨k2, .str "_exception" t2, .none⟩] n) X ⟨R.exc, rfl, rfl, hy⟩ (by decide +kernel) mc288.ga mc288.gk (by k_is) (by k_is) (by rfl) ?_
      refine callWith_K0 X (by k_is) (Lf.use2 (lift am (excSup_leafV X R.exc ⟨k1, k2, t1, t2, n, hy⟩)) fun v h' tk kk z => ?_)
      subst z; exact k h' tk kk 0
    · refine method_exc (f := 239) (od := dct #[⟨k1, .str "_msg" t1, .str x tx⟩, ⟨k2, .str "_exception" t2, .none⟩] n) X ⟨R.exc, rfl, rfl, hy⟩ (by decide +kernel) mc288.ga mc288.gk (by k_is) (by k_is) (by rfl) ?_
      refine callWith_K0 X (by k_is) (Lf.use2 (lift am (msgSup_leafV X R.exc ⟨k1, k2, t1, t2, n, hy⟩)) fun v h' tk kk z => ?_)
      obtain ⟨tk', rfl⟩ := z; exact k h' tk kk tk'
  · rcases hC with z | z <;> cases z
end
end Mine
end
section
open PySem PySem.W PySem.W.X PyProof.Rows PySem.Calls
namespace Mine
def roG (e y T : Addr) (n : Nat) (ρ : Addr → Option Ro) (b : Addr) : Option Ro := if e = b then some (.V n) else if y = b then some (.X n) else if T = b then some (.T n) else ρ b
theorem Wd.grown {h₀ h h' : Heap} {ρ : Addr → Option Ro} {σ : Sg} (W : Wd h₀ ρ σ h) (b0 : h₀.StaysIn h) {e T y : Addr} {C tup : Value} {dxo : Option Addr} {x : Str} {o : Obj} {us : List Value} {n1 n2 n3 n4 : Nat} (R : Rz h' e C dxo tup xr T .none) (hA : AuxO C dxo tup y x o) (hy : h'.get? y = some o)
    (fe : h.get? e = none) (fT : h.get? T = none) (fy : h.get? y = none) (ye : y ≠ e) (yT : y ≠ T) (kq : ∀ a ro o, ρ a = some ro → a ∉ [σ.aR, σ.aD, σ.aT, σ.aK] → h.get? a = some o → h'.get? a = some o)
    (h1 : h'.get? σ.aR = some (lstO (σ.rs.map fun x => Value.ref x.r).toArray n1)) (h2 : h'.get? σ.aD = some (lstO (σ.rs.map fun x => Value.ref x.q).toArray n2)) (h3 : h'.get? σ.aT = some (lstO (σ.ts ++ [Value.ref e]).toArray n3)) (h4 : h'.get? σ.aK = some (lstO us.toArray n4)) (hus : IntsAre us ((σ.ks ++ [5]).map fun k : Nat => (k : Int))) :
    Wd h₀ (roG e y T σ.ts.length ρ) { σ with ts := σ.ts ++ [Value.ref e], ks := σ.ks ++ [5] } h' ∧ (∀ b, roG e y T σ.ts.length ρ b ≠ none → ρ b ≠ none ∨ h.get? b = none) := by
  have old : ∀ {b ro}, ρ b = some ro → roG e y T σ.ts.length ρ b = some ro := fun {b ro} z => by
    obtain ⟨⟨ob, hb⟩, _⟩ := W.live b ro z
    unfold roG
    rw [if_neg (fun q => by rw [← q, fe] at hb; cases hb), if_neg (fun q => by rw [← q, fy] at hb; cases hb), if_neg (fun q => by rw [← q, fT] at hb; cases hb), z]
  have kp : ∀ a ro o, ρ a = some ro → (∀ i, ro ≠ .L i) → h.get? a = some o → h'.get? a = some o := fun a ro o p n q => kq a ro o p (fun z => by
    simp only [List.mem_cons, List.not_mem_nil, or_false] at z
    rcases z with rfl | rfl | rfl | rfl
    · rw [W.pR] at p; cases p; exact n _ rfl
    · rw [W.pD] at p; cases p; exact n _ rfl
    · rw [W.pT] at p; cases p; exact n _ rfl
    · rw [W.pK] at p; cases p; exact n _ rfl) q
  have e0 : roG e y T σ.ts.length ρ e = some (.V σ.ts.length) := by simp [roG]
  have e1 : roG e y T σ.ts.length ρ y = some (.X σ.ts.length) := by simp [roG, Ne.symm ye]
  have e2 : roG e y T σ.ts.length ρ T = some (.T σ.ts.length) := by simp [roG, Ne.symm R.ne, yT]
  obtain ⟨ts, hT, h3T⟩ := R.tb
  refine ⟨⟨?_, ⟨n1, h1⟩, ⟨n2, h2⟩, ⟨n3, h3⟩, ⟨us, n4, h4, hus⟩, old W.pR, old W.pD, old W.pT, old W.pK, ?_, ?_, ?_, W.one⟩, ?_⟩
  · intro a ro p
    unfold roG at p
    split at p
    · rename_i z; subst z; exact ⟨⟨_, R.exc⟩, none_of b0 fe⟩
    split at p
    · rename_i z; subst z; exact ⟨⟨_, hy⟩, none_of b0 fy⟩
    split at p
    · rename_i z; subst z; exact ⟨⟨_, hT⟩, none_of b0 fT⟩
    obtain ⟨⟨oa, ha⟩, z0⟩ := W.live a ro p
    refine ⟨?_, z0⟩
    by_cases q1 : a = σ.aR
    · exact ⟨_, q1 ▸ h1⟩
    by_cases q2 : a = σ.aD
    · exact ⟨_, q2 ▸ h2⟩
    by_cases q3 : a = σ.aT
    · exact ⟨_, q3 ▸ h3⟩
    by_cases q4 : a = σ.aK
    · exact ⟨_, q4 ▸ h4⟩
    exact ⟨oa, kq a ro oa p (by simpa using ⟨q1, q2, q3, q4⟩) ha⟩
  · intro j z hj
    obtain ⟨a, b, c, d⟩ := W.rd j z hj
    exact ⟨a.more (fun _ => kp _ _ _ b (fun _ => nofun)) (fun _ => kp _ _ _ c (fun _ => nofun)) (fun _ => kp _ _ _ d (fun _ => nofun)), old b, old c, old d⟩
  · intro j v k hv hk
    dsimp only at hv hk
    by_cases hjl : j < σ.ts.length
    · rw [List.getElem?_append_left hjl] at hv
      rw [List.getElem?_append_left (by rw [W.len]; exact hjl)] at hk
      refine (W.th j v k hv hk).keep fun a ro o p hr z => ⟨kp a ro o p (fun i e => ?_) z, old p⟩
      rw [e] at hr; rcases hr with y | y | y <;> cases y
    · rw [List.getElem?_append_right (by omega)] at hv
      rw [List.getElem?_append_right (by rw [W.len]; omega), W.len] at hk
      obtain ⟨i, rfl⟩ : ∃ i, j = σ.ts.length + i := ⟨j - σ.ts.length, by omega⟩
      rw [Nat.add_sub_cancel_left] at hv hk
      match i, hv, hk with
      | 0, hv, hk => cases hv; cases hk; exact ⟨e, C, dxo, tup, y, o, x, T, rfl, R, hA, hy, e0, e1, e2⟩
      | n + 1, hv, hk => cases hv
  · simp [W.len]
  · intro b hb
    unfold roG at hb
    split at hb
    · rename_i z; subst z; exact .inr fe
    split at hb
    · rename_i z; subst z; exact .inr fy
    split at hb
    · rename_i z; subst z; exact .inr fT
    exact .inl hb
end Mine
end
section
open PySem PySem.W PySem.W.X PyProof.Rows PySem.Calls
namespace Mine
theorem fill24 : (fun (_ : OpenLaw) (_ : Params → Frag) => True) PySem.Challenge.rw_kl0193_01 hdK.heap_1 := by
  k_fill
  trivial
section
variable {prog : Program} {w : World} {mg mb : Str → Option Value} {A : Around} {E : Value → Shared → Prop} {s : Shared} {h h₀ : Heap} {t : Nat} {outer : List Env}
theorem refused_spec2 (B : Base0 w mg mb h₀) (b : Bs h₀ h) (am : Am A 440 1700) (hfr : A.frames = some outer) (hl : h.FunFrames {} outer) (hb : ∀ l ∈ frs outer, h₀.get? l = none) {r d : Addr} {c : Int} {tc tx : Tok} {x : Str} {v : Value} {vf : Nat → Value} (hr : h.get? r = some (inst 417 d)) (hD : RD h d vf)
    (hc0 : 0 ≤ c) (hc1 : c < 6) (hx : x.length ≤ 1000000) {Q : Value → Shared → Prop}
    (k : ∀ h' t' a n u e C T, NewErr h h' (due c x) e C T → Chg (frs outer) (fun _ => False) h h' → h.get? a = none → h'.get? a = some (lstO #[.int (dueK c) u, .ref e] n) → (c ≠ 5 → C = .ref 276 ∨ C = .ref 288) → Q (.ref a) (St s h' t')) :
    wpAny (model prog w) A (call (.ref 468) [.ref r, .int c tc, .str x tx, v]) Q E (St s h t) := by
  refine wpAny_call (enter B b am (binds := [("reader", .ref r), ("call", .int c tc), ("words", .str x tx), ("thing", v)]) (by k_is) (by k_is) (BindsTo.of_eq rfl) (locs rfl) (fun h₁ F k₁ => ?_))
  have hl₁ : h₁.FunFrames {} outer := funF_ex (Ex.of_stays (S := []) k₁) hl (by simp)
  have X : (hdK.heap_1 w.params).In h₁ := (Bs.of F).in B
  have hL := size_none h
  generalize h.objs.size = L at *
  have am' : Am (A.deeper (envOf "_law_refused" scRef L 468 (.ref 467))) 441 1703 := am.deeper _
  have hF : h₁.FunFrames {} (envOf "_law_refused" scRef L 468 (.ref 467) :: outer) := Heap.FunFrames.cons nofun rfl F.ns rfl hl₁
  have hfr' := Around.frames_deeper (env := envOf "_law_refused" scRef L 468 (.ref 467)) hfr
  refine wpAny_execs_cons (wpAny_Try_except ?_)
  generalize A.deeper _ = A' at *
  have six : c = 0 ∨ c = 1 ∨ c = 2 ∨ c = 3 ∨ c = 4 ∨ c = 5 := by omega
  have hD₁ : RD h₁ d vf := by
    obtain ⟨k1, k2, k3, k4, t1, t2, t3, t4, n, q⟩ := hD
    exact ⟨k1, k2, k3, k4, t1, t2, t3, t4, n, k₁ _ _ q⟩
  rcases six with rfl | rfl | rfl | rfl | rfl | rfl
  · refine wpAny_execs_cons (wpAny_If (wpAny_isTrue_Compare1 (ld F rfl (wpAny_Constant_int (eq_int (wpAny_truthy_bool ?_))))))
    rw [if_pos (by decide)]
    refine wpAny_execs_cons (wpAny_Expr (ev_rmeth B F rfl (k₁ _ _ hr) hD₁ (by k_is) (by k_is) (by k_is) (by k_is) (by intros; rfl) (spliced_more (ld F rfl (spliced_none ⟨X, ?_⟩)))))
    refine c_setLocale B (Bs.of F) am'.mono hfr' hF (fun h₂ t₂ e T N c₂ => ?_)
    obtain ⟨dxo, tup, y, o, R, hA, hy, he0, hT0, hy0, hye, hyT⟩ := N
    refine land_try hfr' (funF_of_chg c₂ hF fun b hb => hb) rfl R (fun h₃ T' R₃ c₃ hT' => ?_)
    have F₃ := fr_chg (fr_chg F c₂ (fun _ z => z.elim) hb) c₃ (fun b z => by rcases z with rfl | rfl; exact none_of F.keep he0; exact none_of F.keep hT0) hb
    have X₃ := (Bs.of F₃).in B
    exact clause_ret B k₁ F hL hl ⟨hA, hy, he0, hT0, hy0, hye, hyT⟩ R₃ c₂ c₃ hT' F₃ cl_288_288 (fun A'' Q' N' q => name_K F₃ B.X B.T (by k_is) q) (fun h' t' a n u T N c na ha => k h' t' a n u e _ T N c na ha (fun _ => .inr rfl))
  · refine wpAny_execs_cons (wpAny_If (wpAny_isTrue_Compare1 (ld F rfl (wpAny_Constant_int (eq_int (wpAny_truthy_bool ?_))))))
    rw [if_neg (by decide)]
    refine wpAny_execs_cons (wpAny_If (wpAny_isTrue_Compare1 (ld F rfl (wpAny_Constant_int (eq_int (wpAny_truthy_bool ?_))))))
    rw [if_pos (by decide)]
    refine wpAny_execs_cons (wpAny_Expr (ev_rmeth B F rfl (k₁ _ _ hr) hD₁ (by k_is) (by k_is) (by k_is) (by k_is) (by intros; rfl) (spliced_more (ld F rfl (spliced_none ⟨X, ?_⟩)))))
    refine c_getFeature B (Bs.of F) am'.mono hfr' hF hx (fun h₂ t₂ e T N c₂ => ?_)
    obtain ⟨dxo, tup, y, o, R, hA, hy, he0, hT0, hy0, hye, hyT⟩ := N
    refine land_try hfr' (funF_of_chg c₂ hF fun b hb => hb) rfl R (fun h₃ T' R₃ c₃ hT' => ?_)
    have F₃ := fr_chg (fr_chg F c₂ (fun _ z => z.elim) hb) c₃ (fun b z => by rcases z with rfl | rfl; exact none_of F.keep he0; exact none_of F.keep hT0) hb
    have X₃ := (Bs.of F₃).in B
    refine clause_no X₃ R₃.exc cl_276_288 (fun A'' Q' N' q => name_K F₃ B.X B.T (by k_is) q) ?_
    exact clause_ret B k₁ F hL hl ⟨hA, hy, he0, hT0, hy0, hye, hyT⟩ R₃ c₂ c₃ hT' F₃ cl_276_276 (fun A'' Q' N' q => name_K F₃ B.X B.T (by k_is) q) (fun h' t' a n u T N c na ha => k h' t' a n u e _ T N c na ha (fun _ => .inl rfl))
  · refine wpAny_execs_cons (wpAny_If (wpAny_isTrue_Compare1 (ld F rfl (wpAny_Constant_int (eq_int (wpAny_truthy_bool ?_))))))
    rw [if_neg (by decide)]
    refine wpAny_execs_cons (wpAny_If (wpAny_isTrue_Compare1 (ld F rfl (wpAny_Constant_int (eq_int (wpAny_truthy_bool ?_))))))
    rw [if_neg (by decide)]
    refine wpAny_execs_cons (wpAny_If (wpAny_isTrue_Compare1 (ld F rfl (wpAny_Constant_int (eq_int (wpAny_truthy_bool ?_))))))
    rw [if_pos (by decide)]
    refine wpAny_execs_cons (wpAny_Expr (ev_rmeth B F rfl (k₁ _ _ hr) hD₁ (by k_is) (by k_is) (by k_is) (by k_is) (by intros; rfl) (spliced_more (ld F rfl (spliced_more (ld F rfl (spliced_none ⟨X, ?_⟩)))))))
    refine c_setFeature B (Bs.of F) am'.mono hfr' hF hx (fun h₂ t₂ e T N c₂ => ?_)
    obtain ⟨dxo, tup, y, o, R, hA, hy, he0, hT0, hy0, hye, hyT⟩ := N
    refine land_try hfr' (funF_of_chg c₂ hF fun b hb => hb) rfl R (fun h₃ T' R₃ c₃ hT' => ?_)
    have F₃ := fr_chg (fr_chg F c₂ (fun _ z => z.elim) hb) c₃ (fun b z => by rcases z with rfl | rfl; exact none_of F.keep he0; exact none_of F.keep hT0) hb
    have X₃ := (Bs.of F₃).in B
    refine clause_no X₃ R₃.exc cl_276_288 (fun A'' Q' N' q => name_K F₃ B.X B.T (by k_is) q) ?_
    exact clause_ret B k₁ F hL hl ⟨hA, hy, he0, hT0, hy0, hye, hyT⟩ R₃ c₂ c₃ hT' F₃ cl_276_276 (fun A'' Q' N' q => name_K F₃ B.X B.T (by k_is) q) (fun h' t' a n u T N c na ha => k h' t' a n u e _ T N c na ha (fun _ => .inl rfl))
  · refine wpAny_execs_cons (wpAny_If (wpAny_isTrue_Compare1 (ld F rfl (wpAny_Constant_int (eq_int (wpAny_truthy_bool ?_))))))
    rw [if_neg (by decide)]
    refine wpAny_execs_cons (wpAny_If (wpAny_isTrue_Compare1 (ld F rfl (wpAny_Constant_int (eq_int (wpAny_truthy_bool ?_))))))
    rw [if_neg (by decide)]
    refine wpAny_execs_cons (wpAny_If (wpAny_isTrue_Compare1 (ld F rfl (wpAny_Constant_int (eq_int (wpAny_truthy_bool ?_))))))
    rw [if_neg (by decide)]
    refine wpAny_execs_cons (wpAny_If (wpAny_isTrue_Compare1 (ld F rfl (wpAny_Constant_int (eq_int (wpAny_truthy_bool ?_))))))
    rw [if_pos (by decide)]
    refine wpAny_execs_cons (wpAny_Expr (ev_rmeth B F rfl (k₁ _ _ hr) hD₁ (by k_is) (by k_is) (by k_is) (by k_is) (by intros; rfl) (spliced_more (ld F rfl (spliced_none ⟨X, ?_⟩)))))
    refine c_getProperty B (Bs.of F) am'.mono hfr' hF hx (fun h₂ t₂ e T N c₂ => ?_)
    obtain ⟨dxo, tup, y, o, R, hA, hy, he0, hT0, hy0, hye, hyT⟩ := N
    refine land_try hfr' (funF_of_chg c₂ hF fun b hb => hb) rfl R (fun h₃ T' R₃ c₃ hT' => ?_)
    have F₃ := fr_chg (fr_chg F c₂ (fun _ z => z.elim) hb) c₃ (fun b z => by rcases z with rfl | rfl; exact none_of F.keep he0; exact none_of F.keep hT0) hb
    have X₃ := (Bs.of F₃).in B
    refine clause_no X₃ R₃.exc cl_276_288 (fun A'' Q' N' q => name_K F₃ B.X B.T (by k_is) q) ?_
    exact clause_ret B k₁ F hL hl ⟨hA, hy, he0, hT0, hy0, hye, hyT⟩ R₃ c₂ c₃ hT' F₃ cl_276_276 (fun A'' Q' N' q => name_K F₃ B.X B.T (by k_is) q) (fun h' t' a n u T N c na ha => k h' t' a n u e _ T N c na ha (fun _ => .inl rfl))
  · refine wpAny_execs_cons (wpAny_If (wpAny_isTrue_Compare1 (ld F rfl (wpAny_Constant_int (eq_int (wpAny_truthy_bool ?_))))))
    rw [if_neg (by decide)]
    refine wpAny_execs_cons (wpAny_If (wpAny_isTrue_Compare1 (ld F rfl (wpAny_Constant_int (eq_int (wpAny_truthy_bool ?_))))))
    rw [if_neg (by decide)]
    refine wpAny_execs_cons (wpAny_If (wpAny_isTrue_Compare1 (ld F rfl (wpAny_Constant_int (eq_int (wpAny_truthy_bool ?_))))))
    rw [if_neg (by decide)]
    refine wpAny_execs_cons (wpAny_If (wpAny_isTrue_Compare1 (ld F rfl (wpAny_Constant_int (eq_int (wpAny_truthy_bool ?_))))))
    rw [if_neg (by decide)]
    refine wpAny_execs_cons (wpAny_If (wpAny_isTrue_Compare1 (ld F rfl (wpAny_Constant_int (eq_int (wpAny_truthy_bool ?_))))))
    rw [if_pos (by decide)]
    refine wpAny_execs_cons (wpAny_Expr (ev_rmeth B F rfl (k₁ _ _ hr) hD₁ (by k_is) (by k_is) (by k_is) (by k_is) (by intros; rfl) (spliced_more (ld F rfl (spliced_more (ld F rfl (spliced_none ⟨X, ?_⟩)))))))
    refine c_setProperty B (Bs.of F) am'.mono hfr' hF hx (fun h₂ t₂ e T N c₂ => ?_)
    obtain ⟨dxo, tup, y, o, R, hA, hy, he0, hT0, hy0, hye, hyT⟩ := N
    refine land_try hfr' (funF_of_chg c₂ hF fun b hb => hb) rfl R (fun h₃ T' R₃ c₃ hT' => ?_)
    have F₃ := fr_chg (fr_chg F c₂ (fun _ z => z.elim) hb) c₃ (fun b z => by rcases z with rfl | rfl; exact none_of F.keep he0; exact none_of F.keep hT0) hb
    have X₃ := (Bs.of F₃).in B
    refine clause_no X₃ R₃.exc cl_276_288 (fun A'' Q' N' q => name_K F₃ B.X B.T (by k_is) q) ?_
    exact clause_ret B k₁ F hL hl ⟨hA, hy, he0, hT0, hy0, hye, hyT⟩ R₃ c₂ c₃ hT' F₃ cl_276_276 (fun A'' Q' N' q => name_K F₃ B.X B.T (by k_is) q) (fun h' t' a n u T N c na ha => k h' t' a n u e _ T N c na ha (fun _ => .inl rfl))
  · refine wpAny_execs_cons (wpAny_If (wpAny_isTrue_Compare1 (ld F rfl (wpAny_Constant_int (eq_int (wpAny_truthy_bool ?_))))))
    rw [if_neg (by decide)]
    refine wpAny_execs_cons (wpAny_If (wpAny_isTrue_Compare1 (ld F rfl (wpAny_Constant_int (eq_int (wpAny_truthy_bool ?_))))))
    rw [if_neg (by decide)]
    refine wpAny_execs_cons (wpAny_If (wpAny_isTrue_Compare1 (ld F rfl (wpAny_Constant_int (eq_int (wpAny_truthy_bool ?_))))))
    rw [if_neg (by decide)]
    refine wpAny_execs_cons (wpAny_If (wpAny_isTrue_Compare1 (ld F rfl (wpAny_Constant_int (eq_int (wpAny_truthy_bool ?_))))))
    rw [if_neg (by decide)]
    refine wpAny_execs_cons (wpAny_If (wpAny_isTrue_Compare1 (ld F rfl (wpAny_Constant_int (eq_int (wpAny_truthy_bool ?_))))))
    rw [if_neg (by decide)]
    refine wpAny_execs_cons (wpAny_Expr (ev_rmeth B F rfl (k₁ _ _ hr) hD₁ (by k_is) (by k_is) (by k_is) (by k_is) (by intros; rfl) (spliced_more (ld F rfl (spliced_none ⟨X, ?_⟩)))))
    refine c_parse B (Bs.of F) am'.mono hfr' hF (fun h₂ t₂ e T N c₂ => ?_)
    obtain ⟨dxo, tup, y, o, R, hA, hy, he0, hT0, hy0, hye, hyT⟩ := N
    refine land_try hfr' (funF_of_chg c₂ hF fun b hb => hb) rfl R (fun h₃ T' R₃ c₃ hT' => ?_)
    have F₃ := fr_chg (fr_chg F c₂ (fun _ z => z.elim) hb) c₃ (fun b z => by rcases z with rfl | rfl; exact none_of F.keep he0; exact none_of F.keep hT0) hb
    have X₃ := (Bs.of F₃).in B
    refine clause_no X₃ R₃.exc cl_nie_288 (fun A'' Q' N' q => name_K F₃ B.X B.T (by k_is) q) ?_
    refine clause_no X₃ R₃.exc cl_nie_276 (fun A'' Q' N' q => name_K F₃ B.X B.T (by k_is) q) ?_
    exact clause_ret B k₁ F hL hl ⟨hA, hy, he0, hT0, hy0, hye, hyT⟩ R₃ c₂ c₃ hT' F₃ cl_nie_nie (fun A'' Q' N' q => name_B F₃ B.X B.T (by k_is) boot_nie (by decide) q) (fun h' t' a n u T N c na ha => k h' t' a n u e _ T N c na ha (fun z => absurd rfl z))
end
end Mine
end
section
open PySem PySem.W PySem.W.X PyProof.Rows PySem.Calls
namespace Mine
theorem fill25 : (fun (_ : OpenLaw) (_ : Params → Frag) => True) PySem.Challenge.rw_kl0193_01 hdK.heap_1 := by
  k_fill
  trivial
theorem item_temp {prog : Program} {w : World} {A : Around} {E : Value → Shared → Prop} {s : Shared} {value slice : Expr} {l : Addr} {items : Array Value} {k : Int} {u : Tok} {x : Value} {Q : Value → Shared → Prop} (hl : s.heap.IsList l items)
    (h0 : 0 ≤ k) (hfit : k < 2 ^ 63) (hx : items[k.toNat]? = some x) (h : Q x s)
    (hs : subscripted slice false (.ref l) (.int k u) = operate [.ref l, .int k u] (getItem (.ref l) (.int k u)) := by with_unfolding_all rfl) :
    wpAny (model prog w) A (subscriptTail value slice (.ref l) (.int k u)) Q E s := by
  unfold subscriptTail
  refine wpAny_bind ?_
  rw [getitemInPython_of_ne hl.typeIs.not_modules]
  refine wpAny_bind (wpAny_specialOf hl.typeIs slot_list_getitem.lookup ?_)
  have fin : wpAny (model prog w) A (subscripted slice false (.ref l) (.int k u)) (fun r s₃ => wpAny (model prog w) A (letTemporaryGo value (.ref l) r >>= fun _ => pure r) Q E s₃) E s := by
    rw [hs]
    exact wpAny_operating (wpAny_getItem_list hl h0 hfit hx (wpAny_bind (wpAny_letTemporaryGo (wpAny_pure h))))
  first
    | exact wpAny_pure (wpAny_bind fin)
    | exact wpAny_bind (wpAny_pure (wpAny_bind fin))
    | exact wpAny_bind fin
theorem six_at {cv : Int} (c0 : 0 ≤ cv) (c6 : cv < 6) (t0 t1 t2 t3 t4 t5 : Tok) : ∃ tk, (List.toArray [Value.int 0 t0, .int 1 t1, .int 1 t2, .int 1 t3, .int 1 t4, .int 2 t5])[cv.toNat]? = some (.int (dueK cv) tk) := by
  have six : cv = 0 ∨ cv = 1 ∨ cv = 2 ∨ cv = 3 ∨ cv = 4 ∨ cv = 5 := by omega
  rcases six with rfl | rfl | rfl | rfl | rfl | rfl <;> exact ⟨_, rfl⟩
section
variable {prog : Program} {w : World} {mg mb : Str → Option Value} {A : Around} {E : Value → Shared → Prop} {s : Shared} {h h₀ : Heap} {t : Nat} 
theorem ev_six {env : Env} {cv : Int} {u : Tok} (c0 : 0 ≤ cv) (c6 : cv < 6) {q0 q1 q2 q3 q4 q5 : Nat} {p0 p1 p2 p3 p4 p5 pl pc ps : Pos} {Q : Value → Shared → Prop} (hm : ∀ (Q' : Value → Shared → Prop) h' t', h.StaysIn h' → Q' (.int cv u) (St s h' t') → wpAny (model prog w) A (eval (.Name "call" pc) env) Q' E (St s h' t'))
    (k : ∀ h' t' tk, h.StaysIn h' → Q (.int (dueK cv) tk) (St s h' t')) : wpAny (model prog w) A (eval (.Subscript (.List [.Constant (.int 0) q0 p0, .Constant (.int 1) q1 p1, .Constant (.int 1) q2 p2, .Constant (.int 1) q3 p3, .Constant (.int 1) q4 p4, .Constant (.int 2) q5 p5] pl) (.Name "call" pc) ps) env) Q E (St s h t) := by
  refine Subscript_ (List_ (spliced_more ?_))
  refine kI (spliced_more ?_)
  refine kI (spliced_more ?_)
  refine kI (spliced_more ?_)
  refine kI (spliced_more ?_)
  refine kI (spliced_more ?_)
  refine kI (spliced_none (newL ?_ (by simp)))
  refine hm _ _ _ (stays_push _ _) ?_
  refine (six_at c0 c6 _ _ _ _ _ _).elim fun tk hik => item_temp (x := .int (dueK cv) tk) ⟨_, Heap.get?_push_size _ rfl, rfl, _, rfl⟩ c0 (by omega) hik ?_
  exact k _ _ _ (stays_push _ _)
theorem txt_at {cv : Int} (c0 : 0 ≤ cv) (c6 : cv < 6) (x : Str) (t0 t1 t2 t3 t4 t5 : Tok) : ∃ tk, (List.toArray [Value.str "Locale support not implemented" t0, .str ("Feature '" ++ x ++ "' not recognized") t1, .str ("Feature '" ++ x ++ "' not recognized") t2, .str ("Property '" ++ x ++ "' not recognized") t3, .str ("Property '" ++ x ++ "' not recognized") t4, .str "This method must be implemented!" t5])[cv.toNat]? = some (.str (due cv x) tk) := by
  have six : cv = 0 ∨ cv = 1 ∨ cv = 2 ∨ cv = 3 ∨ cv = 4 ∨ cv = 5 := by omega
  rcases six with rfl | rfl | rfl | rfl | rfl | rfl <;> exact ⟨_, rfl⟩
theorem ev_due {env : Env} {cv : Int} {u tw : Tok} {x : Str} (c0 : 0 ≤ cv) (c6 : cv < 6) (lx : x.length ≤ 200) {q0 q1 q2 q3 q4 q5 q6 q7 q8 q9 : Nat} {p0 p1 p2 p3 p4 p5 p6 p7 p8 p9 r1 r2 r3 r4 s1 s2 s3 s4 w1 w2 w3 w4 pl pc ps : Pos} {Q : Value → Shared → Prop} (hm : ∀ (Q' : Value → Shared → Prop) h' t', h.StaysIn h' → Q' (.int cv u) (St s h' t') → wpAny (model prog w) A (eval (.Name "call" pc) env) Q' E (St s h' t'))
    (hw : ∀ (Q' : Value → Shared → Prop) t' r, Q' (.str x tw) (St s h t') → wpAny (model prog w) A (eval (.Name "words" r) env) Q' E (St s h t'))
    (k : ∀ h' t' tk, h.StaysIn h' → Q (.str (due cv x) tk) (St s h' t')) : wpAny (model prog w) A (eval (.Subscript (.List [.Constant (.str "Locale support not implemented") q0 p0, (.BinOp (.BinOp (.Constant (.str "Feature '") q1 p1) .Add (.Name "words" r1) s1) .Add (.Constant (.str "' not recognized") q6 p6) w1), (.BinOp (.BinOp (.Constant (.str "Feature '") q2 p2) .Add (.Name "words" r2) s2) .Add (.Constant (.str "' not recognized") q7 p7) w2), (.BinOp (.BinOp (.Constant (.str "Property '") q3 p3) .Add (.Name "words" r3) s3) .Add (.Constant (.str "' not recognized") q8 p8) w3), (.BinOp (.BinOp (.Constant (.str "Property '") q4 p4) .Add (.Name "words" r4) s4) .Add (.Constant (.str "' not recognized") q9 p9) w4), .Constant (.str "This method must be implemented!") q5 p5] pl) (.Name "call" pc) ps) env) Q E (St s h t) := by
  have l1 : ("Feature '" : Str).length = 9 := by decide
  have l2 : ("' not recognized" : Str).length = 16 := by decide
  have l3 : ("Property '" : Str).length = 10 := by decide
  refine Subscript_ (List_ (spliced_more (kS (spliced_more ?_))))
  refine wpAny_BinOp (wpAny_BinOp (kS (hw _ _ _ (add_str (fun ta ka => kS (add_str (fun tb kb => spliced_more ?_) (by rw [strLen_append, sizeLine_eq]; omega))) (by rw [sizeLine_eq]; omega)))))
  refine wpAny_BinOp (wpAny_BinOp (kS (hw _ _ _ (add_str (fun ta ka => kS (add_str (fun tb kb => spliced_more ?_) (by rw [strLen_append, sizeLine_eq]; omega))) (by rw [sizeLine_eq]; omega)))))
  refine wpAny_BinOp (wpAny_BinOp (kS (hw _ _ _ (add_str (fun ta ka => kS (add_str (fun tb kb => spliced_more ?_) (by rw [strLen_append, sizeLine_eq]; omega))) (by rw [sizeLine_eq]; omega)))))
  refine wpAny_BinOp (wpAny_BinOp (kS (hw _ _ _ (add_str (fun ta ka => kS (add_str (fun tb kb => spliced_more ?_) (by rw [strLen_append, sizeLine_eq]; omega))) (by rw [sizeLine_eq]; omega)))))
  refine kS (spliced_none (newL ?_ (by simp)))
  refine hm _ _ _ (stays_push _ _) ?_
  refine (txt_at c0 c6 x _ _ _ _ _ _).elim fun tk hik => item_temp (x := .str (due cv x) tk) ⟨_, Heap.get?_push_size _ rfl, rfl, _, rfl⟩ c0 (by omega) hik ?_
  exact k _ _ _ (stays_push _ _)
end
end Mine
end
section
open PySem PySem.W PySem.W.X PyProof.Rows PySem.Calls
namespace Mine
theorem fill22 : (fun (_ : OpenLaw) (_ : Params → Frag) => True) PySem.Challenge.rw_kl0193_01 hdK.heap_1 := by
  k_fill
  trivial
section
variable {prog : Program} {w : World} {mg mb : Str → Option Value} {A : Around} {E : Value → Shared → Prop} {s : Shared} {h h₀ : Heap} {t : Nat} {outer : List Env} {ρ : Addr → Option Ro} {σ : Sg}
set_option maxHeartbeats 4000000 in
theorem deed1_spec (B : Base0 w mg mb h₀) (b : Bs h₀ h) (am : Am A 330 1200) (hfr : A.frames = some outer) (hl : h.FunFrames {} outer) (hb : ∀ l ∈ frs outer, h₀.get? l = none) (hρ : ∀ l ∈ frs outer, ρ l = none) (W : Wd h₀ ρ σ h) (lt : σ.ts.length ≤ 800) (lr : σ.rs.length ≤ 800) (r1 : 1 ≤ σ.rs.length) {x : Int} {tx : Tok} (hx : x.fmod 5 = 1) {Q : Value → Shared → Prop}
    (k : ∀ h' t' ρ' σ', Out h₀ h ρ σ (frs outer) h' ρ' σ' → 5 ∈ σ'.ks → Q (.bool true) (St s h' t')) :
    wpAny (model prog w) A (call (.ref 487) [.int x tx, .ref σ.aR, .ref σ.aD, .ref σ.aT, .ref σ.aK]) Q E (St s h t) := by
  refine wpAny_call (enterC B b am (binds := [("x", .int x tx), ("readers", .ref σ.aR), ("drawers", .ref σ.aD), ("things", .ref σ.aT), ("kinds", .ref σ.aK)]) (by k_is) (by k_is) rfl ?_ (fun h₁ t₁ F k₁ hc => ?_))
  · intro L x hx
    simp only [List.mem_cons, List.not_mem_nil, or_false] at hx
    rcases hx with rfl | rfl | rfl | rfl | rfl
    · exact .inl rfl
    · exact .inl rfl
    · exact .inl rfl
    · exact .inr ⟨rfl, rfl⟩
    · exact .inr ⟨rfl, rfl⟩
  have hLn := size_none h
  have hn1 : h.get? (h.objs.size + 1) = none := Heap.get?_none_of_le (by omega)
  have hn2 : h.get? (h.objs.size + 2) = none := Heap.get?_none_of_le (by omega)
  have hc0 : h₁.IsCell (h.objs.size + 1) (some (.ref σ.aT)) := hc "things" _ rfl
  have hc1 : h₁.IsCell (h.objs.size + 2) (some (.ref σ.aK)) := hc "kinds" _ rfl
  have hF : Fr h₀ h.objs.size h₁ (fun y => if y = "drawers" then some (.ref σ.aD) else if y = "readers" then some (.ref σ.aR) else if y = "x" then some (.int x tx) else none) := F
  clear hc F
  generalize h.objs.size = L at *
  refine wpAny_mono ?_ (fun _ _ x => x) (fun _ _ (x : False) => x.elim)
  change wpAny (model prog w) (A.deeper (dE L)) (execs _ (dE L)) _ _ _
  have am' : Am (A.deeper (dE L)) 331 1203 := am.deeper _
  have hfr' := Around.frames_deeper (env := dE L) hfr
  generalize A.deeper _ = A' at *
  have D₁ : Dx (frs outer) h₀ h ρ σ L h₁ _ := ⟨hF, W.keep fun _ _ _ _ q => k₁ _ _ q, hc0, hc1, rfl, rfl, Chg.of_stays k₁, hLn, W.no hLn, funF_not hl hLn, funF_not hl hn1, funF_not hl hn2⟩
  clear hF hc0 hc1
  refine asg2 am'.handled (wpAny_BinOp (ldX D₁.F rfl (kI (modS (by decide) fun dv ed d0 d5 => ?_))))
  refine wpAny_BinOp (ldX D₁.F rfl (kI (divS (by decide) (by decide) fun rv er => ⟨_, _, rfl, fun h₂ k₂ => ?_⟩)))
  have D₂ := D₁.stays k₂
  refine stX D₂.F fun h₃ F₃ x₃ => stX F₃ fun h₄ F₄ x₄ => ?_
  have D₄ := (D₂.set F₃ x₃ rfl rfl).set F₄ x₄ rfl rfl
  clear D₁ D₂
  rw [hx] at ed
  subst ed
  refine wpAny_execs_cons (wpAny_If (wpAny_isTrue_Compare1 (ldX D₄.F rfl (kI (eq_int (wpAny_truthy_bool ?_))))))
  rw [if_neg (by decide)]
  refine wpAny_execs_nil ?_
  obtain ⟨nR, hR⟩ := D₄.W.lR
  have r0 : (0 : Int) < ((σ.rs.map fun x => Value.ref x.r).length : Int) := by rw [List.length_map]; omega
  have r2 : ((σ.rs.map fun x => Value.ref x.r).length : Int) < 1000000 := by rw [List.length_map]; omega
  refine asg2 am'.handled (wpAny_BinOp (ldX D₄.F rfl (ev_lenX B D₄.F (fun Q' q => ldX D₄.F D₄.mR q) hR (by rw [List.length_map]; omega) fun u5 t5 => modS r0 fun av ea a0 aN => ?_)))
  refine wpAny_BinOp (ldX D₄.F rfl (ev_lenX B D₄.F (fun Q' q => ldX D₄.F D₄.mR q) hR (by rw [List.length_map]; omega) fun u6 t6 => divS r0 r2 fun rv2 er2 => ⟨_, _, rfl, fun h₅ k₅ => ?_⟩))
  have D₅ := D₄.stays k₅
  refine stX D₅.F fun h₆ F₆ x₆ => stX F₆ fun h₇ F₇ x₇ => ?_
  have D₇ := (D₅.set F₆ x₆ rfl rfl).set F₇ x₇ rfl rfl
  clear D₄ D₅ F₆ F₇ F₃ F₄ hR nR
  rw [List.length_map] at aN
  obtain ⟨y, hy⟩ : ∃ y, σ.rs[av.toNat]? = some y := ⟨_, List.getElem?_eq_getElem (by omega)⟩
  refine wpAny_execs_cons (wpAny_If (wpAny_isTrue_Compare1 (ldX D₇.F rfl (kI (eq_int (wpAny_truthy_bool ?_))))))
  rw [if_pos (by decide)]
  refine asg2 am'.handled (wpAny_BinOp (ldX D₇.F rfl (kI (modS (by decide) fun cv ec c0 c6 => ?_))))
  refine Call_ (nameX_K D₇.F B.X B.T (by k_is) (callWith_K ((Bs.of D₇.F).in B) (by k_is) (spliced_more ?_)))
  refine wpAny_BinOp (ldX D₇.F rfl (kI (divS (by decide) (by decide) fun wv ew => spliced_none ⟨(Bs.of D₇.F).in B, ?_⟩)))
  refine words_spec B (Bs.of D₇.F) am'.mono fun h₈ t₈ xw tw k₈ lw => ⟨_, _, rfl, fun h₉ k₉ => ?_⟩
  have D₉ := (D₇.stays k₈).stays k₉
  refine stX D₉.F fun h₁₀ F₁₀ x₁₀ => stX F₁₀ fun h₁₁ F₁₁ x₁₁ => ?_
  have D₁₁ := (D₉.set F₁₀ x₁₀ rfl rfl).set F₁₁ x₁₁ rfl rfl
  clear D₇ D₉ F₁₀ F₁₁
  obtain ⟨nR, hR⟩ := D₁₁.W.lR
  obtain ⟨nT, hT⟩ := D₁₁.W.lT
  obtain ⟨⟨hrd, hRD, hix, us0, nq, hq, hus0⟩, pr, pd, pq⟩ := D₁₁.W.rd _ _ hy
  refine asgX ?_
  refine Call_ (nameX_K D₁₁.F B.X B.T (by k_is) (callWith_K ((Bs.of D₁₁.F).in B) (by k_is) (spliced_more ?_)))
  refine ev_itemX (xs := σ.rs.map fun x => .ref x.r) (fun Q' q => ldX D₁₁.F D₁₁.mR q) hR (fun Q' q => ldX D₁₁.F rfl q) a0 (by omega) (v := .ref y.r) (by simp [hy]) ?_
  refine spliced_more (ldX D₁₁.F rfl (spliced_more (ldX D₁₁.F rfl (spliced_more ?_))))
  have tl : 0 < σ.ts.length := by have := hix 0 (by decide); omega
  refine Subscript_ (ldC rfl D₁₁.cT ?_)
  refine wpAny_BinOp (wpAny_BinOp (ldX D₁₁.F rfl (kI (divS (by decide) (by decide) fun d2 _ => ?_))))
  refine ev_lenX B D₁₁.F (fun Q' q => ldC rfl D₁₁.cT q) hT (by omega) fun u12 t12 => modS (by omega) fun iv _ i0 iN => ?_
  refine item_list (items := σ.ts.toArray) (x := σ.ts.getD iv.toNat .none) ⟨_, hT, rfl, _, rfl⟩ i0 (by omega) (by simp; rw [List.getElem?_eq_getElem (by omega)]; rfl) ?_
  refine spliced_none ⟨(Bs.of D₁₁.F).in B, ?_⟩
  have hl₁₁ : h₁₁.FunFrames {} outer := funF_of_chg D₁₁.k hl fun b hb => hb
  have hF₁₁ : h₁₁.FunFrames {} (dE L :: outer) := Heap.FunFrames.cons nofun rfl D₁₁.F.ns rfl hl₁₁
  have hb' : ∀ l ∈ frs (dE L :: outer), h₀.get? l = none := fun l hl' => by
    rcases List.mem_cons.mp hl' with rfl | z
    · exact none_of b.keep hLn
    · exact hb l z
  refine refused_spec2 B (Bs.of D₁₁.F) am'.mono hfr' hF₁₁ hb' hrd hRD c0 c6 (by omega) fun h₁₂ t₁₂ a n u e C T N c₁₂ na ha hC => ?_
  have D₁₂ := D₁₁.chg c₁₂ hb hρ
  refine stX D₁₂.F fun h₁₃ F₁₃ x₁₃ => ?_
  have D₁₃ := D₁₂.set F₁₃ x₁₃ rfl rfl
  obtain ⟨dxo, tup, yy, oo, R, hA, hyy, fe, fT, fy, ye, yT⟩ := N
  have aL : a ≠ L := fr_ne D₁₁.F na
  have ha13 := x₁₃ _ _ (by simpa using aL) ha
  have R13 : Rz h₁₃ e C dxo tup xr T .none := by
    obtain ⟨R1, R2, tsv, R3, R4⟩ := R
    exact ⟨x₁₃ _ _ (by simpa using fr_ne D₁₁.F fe) R1, R2, tsv, x₁₃ _ _ (by simpa using fr_ne D₁₁.F fT) R3, R4⟩
  have hy13 := x₁₃ _ _ (by simpa using fr_ne D₁₁.F fy) hyy
  have fe0 := D₁₁.k.none fe
  have fT0 := D₁₁.k.none fT
  have fy0 := D₁₁.k.none fy
  have fa0 := D₁₁.k.none na
  have eL := fr_ne D₁₁.F fe
  have TL := fr_ne D₁₁.F fT
  have yL := fr_ne D₁₁.F fy
  clear D₁₁ D₁₂ R hyy ha F₁₃ hT
  refine wpAny_execs_cons (wpAny_If (wpAny_isTrue_Compare1 ?_))
  refine Subscript_ (ldX D₁₃.F (if_pos rfl) (kI ?_))
  refine item_list (items := #[.int (dueK cv) u, .ref e]) (x := .int (dueK cv) u) ⟨_, ha13, rfl, _, rfl⟩ (by decide) (by decide) rfl ?_
  refine ev_six c0 c6 (fun Q' h' t' kk q => ldX (D₁₃.stays kk).F rfl q) fun h₁₄ t₁₄ tk k14 => ?_
  refine ne_int (wpAny_truthy_bool ?_)
  rw [if_neg (by simp)]
  refine wpAny_execs_nil ?_
  have D₁₄ := D₁₃.stays k14
  refine asgX (ev_due c0 c6 lw (fun Q' h' t' kk q => ldX (D₁₄.stays kk).F rfl q) (fun Q' t' r q => ldX D₁₄.F rfl q) fun h₁₅ t₁₅ tk' k15 => stX (D₁₄.stays k15).F fun h₁₆ F₁₆ x₁₆ => ?_)
  have D₁₆ := (D₁₄.stays k15).set F₁₆ x₁₆ rfl rfl
  have k1315 := stays_trans k14 k15
  have ha16 := x₁₆ _ _ (by simpa using aL) (k1315 _ _ ha13)
  have R16 : Rz h₁₆ e C dxo tup xr T .none := by
    obtain ⟨R1, R2, tsv, R3, R4⟩ := R13
    exact ⟨x₁₆ _ _ (by simpa using eL) (k1315 _ _ R1), R2, tsv, x₁₆ _ _ (by simpa using TL) (k1315 _ _ R3), R4⟩
  have hy16 := x₁₆ _ _ (by simpa using yL) (k1315 _ _ hy13)
  clear D₁₃ D₁₄ F₁₆ R13 hy13 ha13
  obtain ⟨nT, hT⟩ := D₁₆.W.lT
  obtain ⟨us, nK, hK, hus⟩ := D₁₆.W.lK
  obtain ⟨nR', hR'⟩ := D₁₆.W.lR
  obtain ⟨nD', hD'⟩ := D₁₆.W.lD
  have liveNe : ∀ {a c : Addr} {ro}, ρ a = some ro → h.get? c = none → c ≠ a := fun p q z => by
    rw [z] at q; rw [W.no q] at p; cases p
  have TLn : σ.aT ≠ L := Ne.symm (liveNe W.pT hLn)
  have KLn : σ.aK ≠ L := Ne.symm (liveNe W.pK hLn)
  have pKT : σ.aK ≠ σ.aT := fun z => by have := W.pK; rw [z, W.pT] at this; cases this
  have pRT : σ.aR ≠ σ.aT := fun z => by have := W.pR; rw [z, W.pT] at this; cases this
  have pRK : σ.aR ≠ σ.aK := fun z => by have := W.pR; rw [z, W.pK] at this; cases this
  have pDT : σ.aD ≠ σ.aT := fun z => by have := W.pD; rw [z, W.pT] at this; cases this
  have pDK : σ.aD ≠ σ.aK := fun z => by have := W.pD; rw [z, W.pK] at this; cases this
  have hul : us.length = σ.ts.length := by rw [IntsAre.length hus, List.length_map, W.len]
  refine wpAny_execs_cons (wpAny_Expr (ev_app (fun Q' q => ldC rfl D₁₆.cT q) hT (by simp; omega) (spliced_more ?_)))
  refine Subscript_ (ldX D₁₆.F rfl (kI ?_))
  refine item_list (items := #[.int (dueK cv) u, .ref e]) (x := .ref e) ⟨_, ha16, rfl, _, rfl⟩ (by decide) (by decide) rfl ?_
  refine spliced_none ⟨_, _, _, rfl, rfl, hT, fun h₁₇ x17 hT17 => ?_⟩
  have F₁₇ := fr_ex D₁₆.F (Ex.sameBut x17) (by simpa using Ne.symm TLn) (by simpa using (W.live _ _ W.pT).2)
  have hK17 := Ex.sameBut x17 _ _ (by simpa using pKT) hK
  have cK17 : h₁₇.IsCell (L + 2) (some (.ref σ.aK)) := let ⟨o, ho, z⟩ := D₁₆.cK; ⟨o, Ex.sameBut x17 _ _ (by simpa using liveNe W.pT hn2) ho, z⟩
  refine wpAny_execs_cons (wpAny_Expr (ev_app (fun Q' q => ldC rfl cK17 q) hK17 (by simp; omega) (spliced_more (kI ?_))))
  refine spliced_none ⟨_, _, _, rfl, rfl, hK17, fun h₁₈ x18 hK18 => ?_⟩
  have F₁₈ := fr_ex F₁₇ (Ex.sameBut x18) (by simpa using Ne.symm KLn) (by simpa using (W.live _ _ W.pK).2)
  have v18 : ∀ {b o}, b ≠ σ.aT → b ≠ σ.aK → h₁₆.get? b = some o → h₁₈.get? b = some o := fun n1 n2 q => Ex.sameBut x18 _ _ (by simpa using n2) (Ex.sameBut x17 _ _ (by simpa using n1) q)
  have R18 : Rz h₁₈ e C dxo tup xr T .none := by
    obtain ⟨R1, R2, tsv, R3, R4⟩ := R16
    exact ⟨v18 (liveNe W.pT fe0) (liveNe W.pK fe0) R1, R2, tsv, v18 (liveNe W.pT fT0) (liveNe W.pK fT0) R3, R4⟩
  have hy18 := v18 (liveNe W.pT fy0) (liveNe W.pK fy0) hy16
  have ha18 := v18 (liveNe W.pT fa0) (liveNe W.pK fa0) ha16
  have hT18 := Ex.sameBut x18 _ _ (by simpa using Ne.symm pKT) hT17
  rw [List.push_toArray] at hT18 hK18
  have G := W.grown b.keep R18 hA hy18 fe0 fT0 fy0 ye yT (fun a ro o p nl q => v18 (fun z => nl (by simp [z])) (fun z => nl (by simp [z])) (D₁₆.k.keep a o (fun z => by rw [hρ a z] at p; cases p) id q))
    (v18 pRT pRK hR') (v18 pDT pDK hD') hT18 hK18 (by rw [List.map_append]; exact ints_snoc hus _ _)
  obtain ⟨W', nw⟩ := G
  have c18 : Chg (frs outer) (fun c => ρ c ≠ none) h h₁₈ := by
    refine (((D₁₆.k.mono (X' := fun c => c = σ.aT ∨ c = σ.aK) fun _ _ _ z => z.elim).trans (Chg.of_ex (fs := frs outer) (Ex.sameBut x17) fun l hl' z => ?_) fun _ _ _ z => .inl (by simpa using z)).trans (Chg.of_ex (fs := frs outer) (Ex.sameBut x18) fun l hl' z => ?_) fun _ _ _ z => .inr (by simpa using z)).mono fun c _ _ z => ?_
    · have := hρ l hl'; rw [List.mem_singleton.mp z, W.pT] at this; cases this
    · have := hρ l hl'; rw [List.mem_singleton.mp z, W.pK] at this; cases this
    · rcases z with rfl | rfl
      · rw [W.pT]; nofun
      · rw [W.pK]; nofun
  have fin : ∀ h' t', h₁₈.StaysIn h' → Q (.bool true) (St s h' t') := fun h' t' kk => k h' t' _ _ ⟨W'.keep fun _ _ _ _ q => kk _ _ q, rfl, rfl, rfl, rfl, by simp, by simp, by simp, fun z => List.mem_append_left _ z, c18.stays_right kk, nw⟩ (by simp)
  clear W' nw c18 D₁₆ hT17 hK17 F₁₇ cK17
  have ite : ∀ {h' : Heap} (kk : h₁₈.StaysIn h'), h'.IsList a #[.int (dueK cv) u, .ref e] := fun kk => ⟨_, kk _ _ ha18, rfl, _, rfl⟩
  refine wpAny_execs_cons (wpAny_Return_some ?_)
  refine BoolOp_and ?_
  refine wpAny_Compare1 (Call_ (nameX_B F₁₈ B.X B.T (by k_is) boot_str (by decide) (PySem.callWith_type1 (Subscript_ (ldX F₁₈ rfl (kI ?_))))))
  refine item_list (x := .ref e) (ite (stays_refl _)) (by decide) (by decide) rfl ?_
  refine err_str ((Bs.of F₁₈).in B) am'.mono R18 hA hy18 fun h₁₉ t₁₉ tk1 k19 => ?_
  have F₁₉ := F₁₈.keeps k19
  refine ldX F₁₉ rfl ?_
  refine PyProof.Rows.eq_str ?_
  rw [beq_self_eq_true]
  refine wpAny_truthy_bool ?_
  rw [if_pos rfl]
  refine BoolOp_and ?_
  refine UnaryOp_ (Call_ (nameX_B F₁₉ B.X B.T (by k_is) boot_isi (by decide) (cw_b (first := []) (spliced_more ?_))))
  refine Subscript_ (ldX F₁₉ rfl (kI ?_))
  refine item_list (x := .ref e) (ite k19) (by decide) (by decide) rfl ?_
  refine spliced_more (nameX_K F₁₉ B.X B.T (by k_is) (spliced_none ?_))
  refine err_isi ((Bs.of F₁₉).in B) am'.mono (R18.stays k19) hA fun h₂₀ t₂₀ k20 => not_of (wpAny_truthy_bool ?_)
  refine wpAny_truthy_bool ?_
  rw [if_pos (by rfl)]
  replace k20 := stays_trans k19 k20
  have F₂₀ := F₁₈.keeps k20
  refine BoolOp_one (BoolOp_or ?_)
  refine wpAny_Compare1 (ldX F₂₀ rfl (kI (eq_int (wpAny_truthy_bool ?_))))
  by_cases q5 : cv = 5
  · rw [if_pos (by simp [q5]), q5]
    exact fin _ _ k20
  · rw [if_neg (by simpa using q5)]
    refine BoolOp_one (BoolOp_and ?_)
    refine wpAny_Compare1 (err_meth (msg := true) ((Bs.of F₂₀).in B) am'.mono (R18.stays k20) hA (k20 _ _ hy18) (hC q5) (fun Q' q => Subscript_ (ldX F₂₀ rfl (kI (item_list (x := .ref e) (ite k20) (by decide) (by decide) rfl (q _))))) (fun h₂₁ t₂₁ k21 tk2 => ?_) (by rfl))
    replace k21 := stays_trans k20 k21
    have F₂₁ := F₁₈.keeps k21
    refine ldX F₂₁ rfl ?_
    refine PyProof.Rows.eq_str ?_
    rw [beq_self_eq_true]
    refine wpAny_truthy_bool ?_
    rw [if_pos rfl]
    refine BoolOp_one ?_
    refine wpAny_Compare1 (err_meth (msg := false) ((Bs.of F₂₁).in B) am'.mono (R18.stays k21) hA (k21 _ _ hy18) (hC q5) (fun Q' q => Subscript_ (ldX F₂₁ rfl (kI (item_list (x := .ref e) (ite k21) (by decide) (by decide) rfl (q _))))) (fun h₂₂ t₂₂ k22 tk3 => ?_) (by rfl))
    refine wpAny_Constant_none (is_ob (.inl rfl) (.inl rfl) ?_)
    exact fin _ _ (stays_trans k21 k22)
end
end Mine
end
section
open PySem PySem.W PySem.W.X PyProof.Rows PySem.Calls
namespace Mine
theorem ints_at4 {us : List Value} {f : Nat → Nat} (x : IntsAre us [(f 0 : Int), (f 1 : Int), (f 2 : Int), (f 3 : Int)]) {d : Int} (d0 : 0 ≤ d) (d4 : d < 4) : ∃ tk, us[d.toNat]? = some (.int (f d.toNat : Int) tk) := by
  cases x with | cons _ t0 x => cases x with | cons _ t1 x => cases x with | cons _ t2 x => cases x with | cons _ t3 x => cases x with | nil =>
  have h4 : d = 0 ∨ d = 1 ∨ d = 2 ∨ d = 3 := by omega
  rcases h4 with rfl | rfl | rfl | rfl
  · exact ⟨t0, rfl⟩
  · exact ⟨t1, rfl⟩
  · exact ⟨t2, rfl⟩
  · exact ⟨t3, rfl⟩
theorem four_at (f : Nat → Value) {d : Int} (d0 : 0 ≤ d) (d4 : d < 4) : (#[f 0, f 1, f 2, f 3] : Array Value)[d.toNat]? = some (f d.toNat) := by
  have h4 : d = 0 ∨ d = 1 ∨ d = 2 ∨ d = 3 := by omega
  rcases h4 with rfl | rfl | rfl | rfl <;> rfl
theorem ints_at {us : List Value} {ns : List Int} (x : IntsAre us ns) : ∀ {i : Nat} {n : Int}, ns[i]? = some n → ∃ tk, us[i]? = some (.int n tk) := by
  induction x with
  | nil => intro i n h; cases h
  | cons a t r ih =>
    intro i n h
    cases i with
    | zero => cases h; exact ⟨t, rfl⟩
    | succ i => exact ih h
section
variable {prog : Program} {w : World} {A : Around} {E : Value → Shared → Prop} {s : Shared} {h : Heap} {t : Nat}
theorem isnot_ref {a : Addr} {o : Obj} {Q : Value → Shared → Prop} (ha : h.get? a = some o) (hc : o.cls ≠ .type "tuple") (q : Q (.bool true) (St s h t)) : wpAny (model prog w) A (compareOp .IsNot (.ref a) .none) Q E (St s h t) := by
  exact wpAny_isNot_other rfl nofun q
end
end Mine
end
section
open PySem PySem.W PySem.W.X PyProof.Rows PySem.Calls
namespace Mine
theorem fill26 : (fun (_ : OpenLaw) (_ : Params → Frag) => True) PySem.Challenge.rw_kl0193_01 hdK.heap_1 := by
  k_fill
  trivial
section
variable {prog : Program} {w : World} {mg mb : Str → Option Value} {A : Around} {E : Value → Shared → Prop} {s : Shared} {h h₀ : Heap} {t : Nat} {outer : List Env} {ρ : Addr → Option Ro} {σ : Sg}
set_option maxHeartbeats 4000000 in
theorem deed3_spec (B : Base0 w mg mb h₀) (b : Bs h₀ h) (am : Am A 330 1200) (hfr : A.frames = some outer) (hl : h.FunFrames {} outer) (hb : ∀ l ∈ frs outer, h₀.get? l = none) (hρ : ∀ l ∈ frs outer, ρ l = none) (W : Wd h₀ ρ σ h) (lt : σ.ts.length ≤ 800) (lr : σ.rs.length ≤ 800) (r1 : 1 ≤ σ.rs.length) {x : Int} {tx : Tok} (hx : x.fmod 5 = 3) {Q : Value → Shared → Prop}
    (k : ∀ h' t' ρ' σ', Out h₀ h ρ σ (frs outer) h' ρ' σ' → Q (.bool true) (St s h' t')) :
    wpAny (model prog w) A (call (.ref 487) [.int x tx, .ref σ.aR, .ref σ.aD, .ref σ.aT, .ref σ.aK]) Q E (St s h t) := by
  refine wpAny_call (enterC B b am (binds := [("x", .int x tx), ("readers", .ref σ.aR), ("drawers", .ref σ.aD), ("things", .ref σ.aT), ("kinds", .ref σ.aK)]) (by k_is) (by k_is) rfl ?_ (fun h₁ t₁ F k₁ hc => ?_))
  · intro L x hx
    simp only [List.mem_cons, List.not_mem_nil, or_false] at hx
    rcases hx with rfl | rfl | rfl | rfl | rfl
    · exact .inl rfl
    · exact .inl rfl
    · exact .inl rfl
    · exact .inr ⟨rfl, rfl⟩
    · exact .inr ⟨rfl, rfl⟩
  have hLn := size_none h
  have hn1 : h.get? (h.objs.size + 1) = none := Heap.get?_none_of_le (by omega)
  have hn2 : h.get? (h.objs.size + 2) = none := Heap.get?_none_of_le (by omega)
  have hc0 : h₁.IsCell (h.objs.size + 1) (some (.ref σ.aT)) := hc "things" _ rfl
  have hc1 : h₁.IsCell (h.objs.size + 2) (some (.ref σ.aK)) := hc "kinds" _ rfl
  have hF : Fr h₀ h.objs.size h₁ (fun y => if y = "drawers" then some (.ref σ.aD) else if y = "readers" then some (.ref σ.aR) else if y = "x" then some (.int x tx) else none) := F
  clear hc F
  generalize h.objs.size = L at *
  refine wpAny_mono ?_ (fun _ _ x => x) (fun _ _ (x : False) => x.elim)
  change wpAny (model prog w) (A.deeper (dE L)) (execs _ (dE L)) _ _ _
  have am' : Am (A.deeper (dE L)) 331 1203 := am.deeper _
  have hfr' := Around.frames_deeper (env := dE L) hfr
  generalize A.deeper _ = A' at *
  have D₁ : Dx (frs outer) h₀ h ρ σ L h₁ _ := ⟨hF, W.keep fun _ _ _ _ q => k₁ _ _ q, hc0, hc1, rfl, rfl, Chg.of_stays k₁, hLn, W.no hLn, funF_not hl hLn, funF_not hl hn1, funF_not hl hn2⟩
  clear hF hc0 hc1
  refine asg2 am'.handled (wpAny_BinOp (ldX D₁.F rfl (kI (modS (by decide) fun dv ed d0 d5 => ?_))))
  refine wpAny_BinOp (ldX D₁.F rfl (kI (divS (by decide) (by decide) fun rv er => ⟨_, _, rfl, fun h₂ k₂ => ?_⟩)))
  have D₂ := D₁.stays k₂
  refine stX D₂.F fun h₃ F₃ x₃ => stX F₃ fun h₄ F₄ x₄ => ?_
  have D₄ := (D₂.set F₃ x₃ rfl rfl).set F₄ x₄ rfl rfl
  clear D₁ D₂
  rw [hx] at ed
  subst ed
  refine wpAny_execs_cons (wpAny_If (wpAny_isTrue_Compare1 (ldX D₄.F rfl (kI (eq_int (wpAny_truthy_bool ?_))))))
  rw [if_neg (by decide)]
  refine wpAny_execs_nil ?_
  obtain ⟨nR, hR⟩ := D₄.W.lR
  have r0 : (0 : Int) < ((σ.rs.map fun x => Value.ref x.r).length : Int) := by rw [List.length_map]; omega
  have r2 : ((σ.rs.map fun x => Value.ref x.r).length : Int) < 1000000 := by rw [List.length_map]; omega
  refine asg2 am'.handled (wpAny_BinOp (ldX D₄.F rfl (ev_lenX B D₄.F (fun Q' q => ldX D₄.F D₄.mR q) hR (by rw [List.length_map]; omega) fun u5 t5 => modS r0 fun av ea a0 aN => ?_)))
  refine wpAny_BinOp (ldX D₄.F rfl (ev_lenX B D₄.F (fun Q' q => ldX D₄.F D₄.mR q) hR (by rw [List.length_map]; omega) fun u6 t6 => divS r0 r2 fun rv2 er2 => ⟨_, _, rfl, fun h₅ k₅ => ?_⟩))
  have D₅ := D₄.stays k₅
  refine stX D₅.F fun h₆ F₆ x₆ => stX F₆ fun h₇ F₇ x₇ => ?_
  have D₇ := (D₅.set F₆ x₆ rfl rfl).set F₇ x₇ rfl rfl
  clear D₄ D₅ F₆ F₇ F₃ F₄ hR nR
  rw [List.length_map] at aN
  obtain ⟨y, hy⟩ : ∃ y, σ.rs[av.toNat]? = some y := ⟨_, List.getElem?_eq_getElem (by omega)⟩
  refine wpAny_execs_cons (wpAny_If (wpAny_isTrue_Compare1 (ldX D₇.F rfl (kI (eq_int (wpAny_truthy_bool ?_))))))
  rw [if_neg (by decide)]
  refine wpAny_execs_nil ?_
  refine asg2 am'.handled (wpAny_BinOp (ldX D₇.F rfl (kI (modS (by decide) fun dw edw dw0 dw4 => ?_))))
  refine wpAny_BinOp (ldX D₇.F rfl (kI (divS (by decide) (by decide) fun rv3 er3 => ⟨_, _, rfl, fun h₈ k₈ => ?_⟩)))
  have D₈ := D₇.stays k₈
  refine stX D₈.F fun h₉ F₉ x₉ => stX F₉ fun h₁₀ F₁₀ x₁₀ => ?_
  have D₁₀ := (D₈.set F₉ x₉ rfl rfl).set F₁₀ x₁₀ rfl rfl
  clear D₇ D₈ F₉ F₁₀
  refine wpAny_execs_cons (wpAny_If (wpAny_isTrue_Compare1 (ldX D₁₀.F rfl (kI (eq_int (wpAny_truthy_bool ?_))))))
  rw [if_neg (by decide)]
  refine wpAny_execs_nil ?_
  obtain ⟨nD, hD⟩ := D₁₀.W.lD
  obtain ⟨nR, hR⟩ := D₁₀.W.lR
  obtain ⟨⟨hrd, hRD, hix, us0, nq, hq, hus0⟩, pr, pd, pq⟩ := D₁₀.W.rd _ _ hy
  obtain ⟨tth, hth⟩ := ints_at4 hus0 dw0 dw4
  refine asgX (Subscript_ ?_)
  refine ev_itemX (xs := σ.rs.map fun x => .ref x.q) (fun Q' q => ldX D₁₀.F D₁₀.mD q) hD (fun Q' q => ldX D₁₀.F rfl q) a0 (by omega) (v := .ref y.q) (by simp [hy]) ?_
  refine ldX D₁₀.F rfl ?_
  refine item_temp (items := us0.toArray) (x := .int (y.ix dw.toNat : Int) tth) ⟨_, hq, rfl, _, rfl⟩ dw0 (by omega) (by simpa using hth) ?_
  refine stX D₁₀.F fun h₁₁ F₁₁ x₁₁ => ?_
  have D₁₁ := D₁₀.set F₁₁ x₁₁ rfl rfl
  clear D₁₀ F₁₁ hD hR hrd hRD hq pr pd pq
  obtain ⟨nR, hR⟩ := D₁₁.W.lR
  obtain ⟨⟨hrd, hRD, hix, us0, nq, hq, hus0⟩, pr, pd, pq⟩ := D₁₁.W.rd _ _ hy
  have hvN : ∀ i, i < 4 → Nr (σ.ts.getD (y.ix i) .none) := fun i hi => by
    have hm : σ.ts.getD (y.ix i) .none ∈ σ.ts := by
      rw [List.getD_eq_getElem?_getD, List.getElem?_eq_getElem (hix i hi)]
      exact List.getElem_mem _
    rcases D₁₁.W.ob _ hm with z | ⟨a, o, z, _⟩
    · exact .inl z
    · exact .inr ⟨a, z⟩
  refine asgX (Subscript_ ?_)
  refine Call_ (nameX_K D₁₁.F B.X B.T (by k_is) (callWith_K ((Bs.of D₁₁.F).in B) (by k_is) (spliced_more ?_)))
  refine ev_itemX (xs := σ.rs.map fun x => .ref x.r) (fun Q' q => ldX D₁₁.F D₁₁.mR q) hR (fun Q' q => ldX D₁₁.F rfl q) a0 (by omega) (v := .ref y.r) (by simp [hy]) ?_
  refine spliced_none ⟨(Bs.of D₁₁.F).in B, ?_⟩
  refine lies_spec B (Bs.of D₁₁.F) am'.mono hrd hRD hvN fun h₁₂ t₁₂ al nl k₁₂ fal hal => ?_
  have D₁₂ := D₁₁.stays k₁₂
  refine ldX D₁₂.F rfl ?_
  refine item_temp (x := σ.ts.getD (y.ix dw.toNat) .none) ⟨_, hal, rfl, _, rfl⟩ dw0 (by omega) (four_at (fun i => σ.ts.getD (y.ix i) .none) dw0 dw4) ?_
  refine stX D₁₂.F fun h₁₃ F₁₃ x₁₃ => ?_
  have D₁₃ := D₁₂.set F₁₃ x₁₃ rfl rfl
  clear D₁₁ D₁₂ F₁₃ hR hrd hRD hq pr pd pq hal
  have hxi : y.ix dw.toNat < σ.ts.length := hix _ (by omega)
  obtain ⟨kd, hkd⟩ : ∃ kd, σ.ks[y.ix dw.toNat]? = some kd := ⟨_, List.getElem?_eq_getElem (by rw [W.len]; exact hxi)⟩
  have hvd : σ.ts[y.ix dw.toNat]? = some (σ.ts.getD (y.ix dw.toNat) .none) := by rw [List.getD_eq_getElem?_getD, List.getElem?_eq_getElem hxi]; rfl
  have hTh := D₁₃.W.th _ _ _ hvd hkd
  refine wpAny_execs_cons (wpAny_If (wpAny_isTrue_Compare1 (ldX D₁₃.F rfl (kI (eq_int (wpAny_truthy_bool ?_))))))
  rw [if_neg (by decide)]
  refine wpAny_execs_nil ?_
  refine asg2 am'.handled (wpAny_BinOp (ldX D₁₃.F rfl (kI (modS (by decide) fun ew eew e0 e3 => ?_))))
  refine wpAny_BinOp (ldX D₁₃.F rfl (kI (divS (by decide) (by decide) fun rv4 er4 => ⟨_, _, rfl, fun h₁₄ k₁₄ => ?_⟩)))
  have D₁₄ := D₁₃.stays k₁₄
  refine stX D₁₄.F fun h₁₅ F₁₅ x₁₅ => stX F₁₅ fun h₁₆ F₁₆ x₁₆ => ?_
  have D₁₆ := (D₁₄.set F₁₅ x₁₅ rfl rfl).set F₁₆ x₁₆ rfl rfl
  clear D₁₃ D₁₄ F₁₅ F₁₆ hTh
  obtain ⟨nT, hT⟩ := D₁₆.W.lT
  have tl : 0 < σ.ts.length := by omega
  refine asgX (Subscript_ (ldC rfl D₁₆.cT ?_))
  refine wpAny_BinOp (ldX D₁₆.F rfl ?_)
  refine ev_lenX B D₁₆.F (fun Q' q => ldC rfl D₁₆.cT q) hT (by omega) fun u12 t12 => modS (by omega) fun iv _ i0 iN => ?_
  obtain ⟨v, hv⟩ : ∃ v, σ.ts[iv.toNat]? = some v := ⟨_, List.getElem?_eq_getElem (by omega)⟩
  refine item_list (items := σ.ts.toArray) (x := v) ⟨_, hT, rfl, _, rfl⟩ i0 (by omega) (by simpa using hv) ?_
  refine stX D₁₆.F fun h₁₇ F₁₇ x₁₇ => ?_
  have D₁₇ := D₁₆.set F₁₇ x₁₇ rfl rfl
  clear D₁₆ F₁₇ hT
  refine asgX ?_
  refine Call_ (nameX_K D₁₇.F B.X B.T (by k_is) (callWith_K ((Bs.of D₁₇.F).in B) (by k_is) (spliced_more (ldX D₁₇.F rfl (spliced_more (ldX D₁₇.F rfl (spliced_more ?_)))))))
  refine Call_ (nameX_K D₁₇.F B.X B.T (by k_is) (callWith_K ((Bs.of D₁₇.F).in B) (by k_is) (spliced_more (ldX D₁₇.F rfl (spliced_none ⟨(Bs.of D₁₇.F).in B, ?_⟩)))))
  refine words_spec B (Bs.of D₁₇.F) am'.mono fun h₁₈ t₁₈ xw tw k₁₈ lw => ?_
  have D₁₈ := D₁₇.stays k₁₈
  clear D₁₇
  refine spliced_more (ldX D₁₈.F rfl (spliced_none ⟨(Bs.of D₁₈.F).in B, ?_⟩))
  have hl₁₈ : h₁₈.FunFrames {} outer := funF_of_chg D₁₈.k hl fun b hb => hb
  have hF₁₈ : h₁₈.FunFrames {} (dE L :: outer) := Heap.FunFrames.cons nofun rfl D₁₈.F.ns rfl hl₁₈
  have hb' : ∀ l ∈ frs (dE L :: outer), h₀.get? l = none := fun l hl' => by
    rcases List.mem_cons.mp hl' with rfl | z
    · exact none_of b.keep hLn
    · exact hb l z
  have out : ∀ {h' : Heap} {t' : Nat} {m : Str → Option Value}, Dx (frs outer) h₀ h ρ σ L h' m → Q (.bool true) (St s h' t') := fun D => k _ _ ρ σ ⟨D.W, rfl, rfl, rfl, rfl, by omega, by omega, by omega, id, D.k.mono fun _ _ _ z => z.elim, fun _ z => .inl z⟩
  have hvO := D₁₈.W.ob v (List.mem_of_getElem? hv)
  refine event_spec B (Bs.of D₁₈.F) am'.mono hfr' hF₁₈ hb' (D₁₈.W.th _ _ _ hvd hkd).thing e0 e3 (fun hke h₁₉ t₁₉ a n k₁₉ na ha => ?_) (fun hke h₁₉ t₁₉ c₁₉ => ?_)
  · have D₁₉ := D₁₈.stays k₁₉
    refine stX D₁₉.F fun h₂₀ F₂₀ x₂₀ => ?_
    have D₂₀ := D₁₉.set F₂₀ x₂₀ rfl rfl
    have ha20 := x₂₀ _ _ (by simpa using fr_ne D₁₈.F na) ha
    obtain ⟨us, nK, hK, hus⟩ := D₂₀.W.lK
    obtain ⟨tkd, hkd'⟩ := ints_at hus (i := y.ix dw.toNat) (n := (kd : Int)) (by rw [List.getElem?_map, hkd]; rfl)
    refine wpAny_execs_cons (wpAny_If (wpAny_isTrue_Compare1 ?_))
    refine ev_itemX (xs := us) (fun Q' q => ldC rfl D₂₀.cK q) hK (fun Q' q => ldX D₂₀.F rfl q) (by omega) (by omega) (v := .int (kd : Int) tkd) (by simpa using hkd') ?_
    refine ldX D₂₀.F rfl (ne_int (wpAny_truthy_bool ?_))
    rw [if_neg (by simp [hke])]
    refine wpAny_execs_nil ?_
    refine wpAny_execs_cons (wpAny_Return_some (BoolOp_and ?_))
    refine wpAny_Compare1 (ldX D₂₀.F (if_pos rfl) (wpAny_Constant_none (isnot_ref ha20 (by simp) (wpAny_truthy_bool ?_))))
    rw [if_pos rfl]
    refine BoolOp_one (wpAny_Compare1 ?_)
    refine Subscript_ (ldX D₂₀.F (if_pos rfl) (kI ?_))
    refine item_list (items := #[if ew = 2 then v else .none]) (x := if ew = 2 then v else .none) ⟨_, ha20, rfl, _, rfl⟩ (by decide) (by decide) rfl ?_
    refine IfExp_ (wpAny_isTrue_Compare1 (ldX D₂₀.F rfl (kI (eq_int (wpAny_truthy_bool ?_)))))
    by_cases q2 : ew = 2
    · rw [if_pos (by simp [q2]), if_pos q2]
      refine ldX D₂₀.F rfl ?_
      have ov : Ob h₂₀ v := D₂₀.W.ob v (List.mem_of_getElem? hv)
      refine is_ob ov ov ?_
      rw [decide_eq_true rfl]
      exact out D₂₀
    · rw [if_neg (by simp [q2]), if_neg q2]
      refine wpAny_Constant_none (is_ob (.inl rfl) (.inl rfl) ?_)
      exact out D₂₀
  · have D₁₉ := D₁₈.chg c₁₉ hb hρ
    refine stX D₁₉.F fun h₂₀ F₂₀ x₂₀ => ?_
    have D₂₀ := D₁₉.set F₂₀ x₂₀ rfl rfl
    obtain ⟨us, nK, hK, hus⟩ := D₂₀.W.lK
    obtain ⟨tkd, hkd'⟩ := ints_at hus (i := y.ix dw.toNat) (n := (kd : Int)) (by rw [List.getElem?_map, hkd]; rfl)
    refine wpAny_execs_cons (wpAny_If (wpAny_isTrue_Compare1 ?_))
    refine ev_itemX (xs := us) (fun Q' q => ldC rfl D₂₀.cK q) hK (fun Q' q => ldX D₂₀.F rfl q) (by omega) (by omega) (v := .int (kd : Int) tkd) (by simpa using hkd') ?_
    refine ldX D₂₀.F rfl (ne_int (wpAny_truthy_bool ?_))
    rw [if_pos (by simp [hke])]
    refine wpAny_execs_cons (wpAny_Return_some ?_)
    refine wpAny_Compare1 (ldX D₂₀.F (if_pos rfl) (wpAny_Constant_none (is_ob (.inl rfl) (.inl rfl) ?_)))
    exact out D₂₀
end
end Mine
end
section
open PySem PySem.W PySem.W.X PyProof.Rows PySem.Calls
namespace Mine
section
variable {prog : Program} {w : World} {A : Around} {E : Value → Shared → Prop} {s : Shared}
theorem setItem_at {l : Addr} {items : Array Value} {n : Nat} {k : Int} {t : Tok} {v : Value} {Q : Unit → Shared → Prop} (ho : s.heap.get? l = some (lstO items n))
    (h0 : 0 ≤ k) (hfit : k < 2 ^ 63) (hn : k < items.size)
    (hQ : ∀ h' n', h'.get? l = some (lstO (items.setIfInBounds k.toNat v) n') → Heap.SameBut l s.heap h' → Q () { s with heap := h' }) :
    wpAny (model prog w) A (setItem (.ref l) (.int k t) v) Q E s := by
  have hl : s.heap.IsList l items := ⟨_, ho, rfl, _, rfl⟩
  have hd : (lstO items n).data = .seq items n := rfl
  unfold setItem
  try with_reducible refine wpAny_holding ?_
  first | refine wpAny_bind (wpAny_pure ?_) | skip
  refine wpAny_bind (wpAny_sequenceKey hl.typeIs (by decide) ?_)
  refine wpAny_bind (wpAny_callSpecial?_slot (name := Str.ofString "__setitem__") hl.typeIs slot_list_setitem
    (wpAny_call_entry slot_list_setitem hl.typeIs entry_list_setitem ?_ (args_list_setitem _ _ _)))
  show wpAny _ _ (Builtin.List.listSubscript? (.int k t) >>= _) _ _ s
  refine wpAny_bind (wpAny_listSubscript_int (fitsIndex_of h0 hfit) ?_)
  clear hfit
  obtain ⟨j, rfl⟩ := Int.eq_ofNat_of_zero_le h0
  have hj : j < items.size := by omega
  have hx' : items[j]? = some items[j] := Array.getElem?_eq_getElem hj
  show wpAny _ _ ((seqItemAt l j >>= fun r => pure (r.map (j, ·))) >>= _) _ _ s
  refine wpAny_bind (wpAny_bind (wpAny_seqItemAt ho hd (wpAny_pure ?_)))
  rw [hx']
  show wpAny _ _ (setSeqItemAt l j v >>= _) _ _ s
  obtain ⟨n', hm⟩ : ∃ n', Obj.mapSeq (·.setIfInBounds j v) (lstO items n) = lstO (items.setIfInBounds j v) n' := ⟨_, rfl⟩
  have hfin : (s.heap.update l (Obj.mapSeq (·.setIfInBounds j v))).get? l = some (lstO (items.setIfInBounds j v) n') := by
    rw [Heap.get?_update_self _ ho (by rw [hm]; rfl), hm]
  refine wpAny_bind (wpAny_setSeqItemAt ho hd ?_)
  first
    | exact wpAny_bind (wpAny_pure (wpAny_pure ⟨.none, rfl, wpAny_pure (hQ _ _ hfin (Heap.SameBut.update ..))⟩))
    | exact wpAny_pure ⟨.none, rfl, wpAny_pure (hQ _ _ hfin (Heap.SameBut.update ..))⟩
end
theorem map_set_same {α β : Type} {f : α → β} : ∀ {l : List α} {j : Nat} {y y' : α}, l[j]? = some y → f y' = f y → (l.set j y').map f = l.map f
  | [], _, _, _, h, _ => by cases h
  | a :: l, 0, y, y', h, e => by cases h; simp [e]
  | a :: l, j + 1, y, y', h, e => by
    rw [List.set_cons_succ, List.map_cons, List.map_cons, map_set_same (l := l) (j := j) (by simpa using h) e]
theorem Wd.set {h₀ h h' : Heap} {ρ : Addr → Option Ro} {σ : Sg} (W : Wd h₀ ρ σ h) {j : Nat} {y : Rd} (hy : σ.rs[j]? = some y) {ix : Nat → Nat} (R : RdF h' σ.ts ⟨y.r, y.d, y.q, ix⟩)
    (kp : ∀ a ro o, ρ a = some ro → a ≠ y.d → a ≠ y.q → h.get? a = some o → h'.get? a = some o) : Wd h₀ ρ { σ with rs := σ.rs.set j ⟨y.r, y.d, y.q, ix⟩ } h' := by
  obtain ⟨_, pr, pd, pq⟩ := W.rd j y hy
  have kL : ∀ {a i o}, ρ a = some (.L i) → h.get? a = some o → h'.get? a = some o := fun p q => kp _ _ _ p (fun z => by rw [z, pd] at p; cases p) (fun z => by rw [z, pq] at p; cases p) q
  refine ⟨?_, ?_, ?_, ?_, ?_, W.pR, W.pD, W.pT, W.pK, ?_, ?_, W.len, trivial⟩
  · intro a ro p
    obtain ⟨⟨o, ho⟩, z⟩ := W.live a ro p
    refine ⟨?_, z⟩
    by_cases q1 : a = y.d
    · obtain ⟨_, ⟨k1, k2, k3, k4, t1, t2, t3, t4, n, b⟩, _⟩ := R
      exact ⟨_, q1 ▸ b⟩
    by_cases q2 : a = y.q
    · obtain ⟨_, _, _, us, n, b, _⟩ := R
      exact ⟨_, q2 ▸ b⟩
    exact ⟨o, kp a ro o p q1 q2 ho⟩
  · obtain ⟨n, q⟩ := W.lR
    exact ⟨n, by dsimp only; rw [map_set_same (f := fun x : Rd => Value.ref x.r) (y' := ⟨y.r, y.d, y.q, ix⟩) hy rfl]; exact kL W.pR q⟩
  · obtain ⟨n, q⟩ := W.lD
    exact ⟨n, by dsimp only; rw [map_set_same (f := fun x : Rd => Value.ref x.q) (y' := ⟨y.r, y.d, y.q, ix⟩) hy rfl]; exact kL W.pD q⟩
  · obtain ⟨n, q⟩ := W.lT
    exact ⟨n, kL W.pT q⟩
  · obtain ⟨us, n, q, r⟩ := W.lK
    exact ⟨us, n, kL W.pK q, r⟩
  · intro i z hz
    dsimp only at hz
    by_cases e : j = i
    · subst e
      rw [List.getElem?_set_self (by obtain ⟨l, _⟩ := List.getElem?_eq_some_iff.mp hy; exact l)] at hz
      cases hz
      exact ⟨R, pr, pd, pq⟩
    · rw [List.getElem?_set_ne e] at hz
      obtain ⟨a, b, c, d⟩ := W.rd i z hz
      have ne : ∀ {a : Addr} {ro}, ρ a = some ro → ro ≠ .D j → ro ≠ .Q j → ∀ o, h.get? a = some o → h'.get? a = some o := fun p n1 n2 o q => kp _ _ _ p (fun z => by rw [z, pd] at p; cases p; exact n1 rfl) (fun z => by rw [z, pq] at p; cases p; exact n2 rfl) q
      refine ⟨a.keepR (ne b nofun nofun) (ne c (fun q => by cases q; exact e rfl) nofun) (ne d nofun (fun q => by cases q; exact e rfl)), b, c, d⟩
  · intro i v k hv hk
    refine (W.th i v k hv hk).keep fun a ro o p hr q => ⟨kp a ro o p (fun z => ?_) (fun z => ?_) q, p⟩
    · rw [z, pd] at p; cases p; rcases hr with y | y | y <;> cases y
    · rw [z, pq] at p; cases p; rcases hr with y | y | y <;> cases y
theorem ints_set4 {us : List Value} {f : Nat → Nat} (x : IntsAre us [(f 0 : Int), (f 1 : Int), (f 2 : Int), (f 3 : Int)]) {d : Nat} (d4 : d < 4) (n : Nat) (u : Tok) :
    IntsAre (us.set d (.int (n : Int) u)) [((if 0 = d then n else f 0 : Nat) : Int), ((if 1 = d then n else f 1 : Nat) : Int), ((if 2 = d then n else f 2 : Nat) : Int), ((if 3 = d then n else f 3 : Nat) : Int)] := by
  cases x with | cons _ t0 x => cases x with | cons _ t1 x => cases x with | cons _ t2 x => cases x with | cons _ t3 x => cases x with | nil =>
  have h4 : d = 0 ∨ d = 1 ∨ d = 2 ∨ d = 3 := by omega
  rcases h4 with rfl | rfl | rfl | rfl <;> exact .cons _ _ (.cons _ _ (.cons _ _ (.cons _ _ .nil)))
end Mine
end
section
open PySem PySem.W PySem.W.X PyProof.Rows PySem.Calls
namespace Mine
theorem fill27 : (fun (_ : OpenLaw) (_ : Params → Frag) => True) PySem.Challenge.rw_kl0193_01 hdK.heap_1 := by
  k_fill
  trivial
section
variable {prog : Program} {w : World} {mg mb : Str → Option Value} {A : Around} {E : Value → Shared → Prop} {s : Shared} {h h₀ : Heap} {t : Nat} {outer : List Env} {ρ : Addr → Option Ro} {σ : Sg}
set_option maxHeartbeats 4000000 in
theorem deed0_spec (B : Base0 w mg mb h₀) (b : Bs h₀ h) (am : Am A 330 1200) (hfr : A.frames = some outer) (hl : h.FunFrames {} outer) (hb : ∀ l ∈ frs outer, h₀.get? l = none) (hρ : ∀ l ∈ frs outer, ρ l = none) (W : Wd h₀ ρ σ h) (lt : σ.ts.length ≤ 800) (lr : σ.rs.length ≤ 800) (r1 : 1 ≤ σ.rs.length) {x : Int} {tx : Tok} (hx : x.fmod 5 = 0) {Q : Value → Shared → Prop}
    (k : ∀ h' t' ρ' σ', Out h₀ h ρ σ (frs outer) h' ρ' σ' → Q (.bool true) (St s h' t')) :
    wpAny (model prog w) A (call (.ref 487) [.int x tx, .ref σ.aR, .ref σ.aD, .ref σ.aT, .ref σ.aK]) Q E (St s h t) := by
  refine wpAny_call (enterC B b am (binds := [("x", .int x tx), ("readers", .ref σ.aR), ("drawers", .ref σ.aD), ("things", .ref σ.aT), ("kinds", .ref σ.aK)]) (by k_is) (by k_is) rfl ?_ (fun h₁ t₁ F k₁ hc => ?_))
  · intro L x hx
    simp only [List.mem_cons, List.not_mem_nil, or_false] at hx
    rcases hx with rfl | rfl | rfl | rfl | rfl
    · exact .inl rfl
    · exact .inl rfl
    · exact .inl rfl
    · exact .inr ⟨rfl, rfl⟩
    · exact .inr ⟨rfl, rfl⟩
  have hLn := size_none h
  have hn1 : h.get? (h.objs.size + 1) = none := Heap.get?_none_of_le (by omega)
  have hn2 : h.get? (h.objs.size + 2) = none := Heap.get?_none_of_le (by omega)
  have hc0 : h₁.IsCell (h.objs.size + 1) (some (.ref σ.aT)) := hc "things" _ rfl
  have hc1 : h₁.IsCell (h.objs.size + 2) (some (.ref σ.aK)) := hc "kinds" _ rfl
  have hF : Fr h₀ h.objs.size h₁ (fun y => if y = "drawers" then some (.ref σ.aD) else if y = "readers" then some (.ref σ.aR) else if y = "x" then some (.int x tx) else none) := F
  clear hc F
  generalize h.objs.size = L at *
  refine wpAny_mono ?_ (fun _ _ x => x) (fun _ _ (x : False) => x.elim)
  change wpAny (model prog w) (A.deeper (dE L)) (execs _ (dE L)) _ _ _
  have am' : Am (A.deeper (dE L)) 331 1203 := am.deeper _
  have hfr' := Around.frames_deeper (env := dE L) hfr
  generalize A.deeper _ = A' at *
  have D₁ : Dx (frs outer) h₀ h ρ σ L h₁ _ := ⟨hF, W.keep fun _ _ _ _ q => k₁ _ _ q, hc0, hc1, rfl, rfl, Chg.of_stays k₁, hLn, W.no hLn, funF_not hl hLn, funF_not hl hn1, funF_not hl hn2⟩
  clear hF hc0 hc1
  refine asg2 am'.handled (wpAny_BinOp (ldX D₁.F rfl (kI (modS (by decide) fun dv ed d0 d5 => ?_))))
  refine wpAny_BinOp (ldX D₁.F rfl (kI (divS (by decide) (by decide) fun rv er => ⟨_, _, rfl, fun h₂ k₂ => ?_⟩)))
  have D₂ := D₁.stays k₂
  refine stX D₂.F fun h₃ F₃ x₃ => stX F₃ fun h₄ F₄ x₄ => ?_
  have D₄ := (D₂.set F₃ x₃ rfl rfl).set F₄ x₄ rfl rfl
  clear D₁ D₂
  rw [hx] at ed
  subst ed
  refine wpAny_execs_cons (wpAny_If (wpAny_isTrue_Compare1 (ldX D₄.F rfl (kI (eq_int (wpAny_truthy_bool ?_))))))
  rw [if_neg (by decide)]
  refine wpAny_execs_nil ?_
  obtain ⟨nR, hR⟩ := D₄.W.lR
  have r0 : (0 : Int) < ((σ.rs.map fun x => Value.ref x.r).length : Int) := by rw [List.length_map]; omega
  have r2 : ((σ.rs.map fun x => Value.ref x.r).length : Int) < 1000000 := by rw [List.length_map]; omega
  refine asg2 am'.handled (wpAny_BinOp (ldX D₄.F rfl (ev_lenX B D₄.F (fun Q' q => ldX D₄.F D₄.mR q) hR (by rw [List.length_map]; omega) fun u5 t5 => modS r0 fun av ea a0 aN => ?_)))
  refine wpAny_BinOp (ldX D₄.F rfl (ev_lenX B D₄.F (fun Q' q => ldX D₄.F D₄.mR q) hR (by rw [List.length_map]; omega) fun u6 t6 => divS r0 r2 fun rv2 er2 => ⟨_, _, rfl, fun h₅ k₅ => ?_⟩))
  have D₅ := D₄.stays k₅
  refine stX D₅.F fun h₆ F₆ x₆ => stX F₆ fun h₇ F₇ x₇ => ?_
  have D₇ := (D₅.set F₆ x₆ rfl rfl).set F₇ x₇ rfl rfl
  clear D₄ D₅ F₆ F₇ F₃ F₄ hR nR
  rw [List.length_map] at aN
  obtain ⟨y, hy⟩ : ∃ y, σ.rs[av.toNat]? = some y := ⟨_, List.getElem?_eq_getElem (by omega)⟩
  refine wpAny_execs_cons (wpAny_If (wpAny_isTrue_Compare1 (ldX D₇.F rfl (kI (eq_int (wpAny_truthy_bool ?_))))))
  rw [if_neg (by decide)]
  refine wpAny_execs_nil ?_
  refine asg2 am'.handled (wpAny_BinOp (ldX D₇.F rfl (kI (modS (by decide) fun dw edw dw0 dw4 => ?_))))
  refine wpAny_BinOp (ldX D₇.F rfl (kI (divS (by decide) (by decide) fun rv3 er3 => ⟨_, _, rfl, fun h₈ k₈ => ?_⟩)))
  have D₈ := D₇.stays k₈
  refine stX D₈.F fun h₉ F₉ x₉ => stX F₉ fun h₁₀ F₁₀ x₁₀ => ?_
  have D₁₀ := (D₈.set F₉ x₉ rfl rfl).set F₁₀ x₁₀ rfl rfl
  clear D₇ D₈ F₉ F₁₀
  refine wpAny_execs_cons (wpAny_If (wpAny_isTrue_Compare1 (ldX D₁₀.F rfl (kI (eq_int (wpAny_truthy_bool ?_))))))
  rw [if_pos (by decide)]
  obtain ⟨nT, hT⟩ := D₁₀.W.lT
  obtain ⟨_, _, hix0, _⟩ := (D₁₀.W.rd _ _ hy).1
  have tl : 0 < σ.ts.length := by have := hix0 0 (by decide); omega
  refine asgX (wpAny_BinOp (ldX D₁₀.F rfl ?_))
  refine ev_lenX B D₁₀.F (fun Q' q => ldC rfl D₁₀.cT q) hT (by omega) fun u12 t12 => modS (by omega) fun iv _ i0 iN => ?_
  refine stX D₁₀.F fun h₁₁ F₁₁ x₁₁ => ?_
  have D₁₁ := D₁₀.set F₁₁ x₁₁ rfl rfl
  clear D₁₀ F₁₁ hT hix0
  obtain ⟨v, hv⟩ : ∃ v, σ.ts[iv.toNat]? = some v := ⟨_, List.getElem?_eq_getElem (by omega)⟩
  obtain ⟨nD, hD⟩ := D₁₁.W.lD
  obtain ⟨nR, hR⟩ := D₁₁.W.lR
  obtain ⟨nT, hT⟩ := D₁₁.W.lT
  obtain ⟨⟨hrd, hRD, hix, us0, nq, hq, hus0⟩, pr, pd, pq⟩ := D₁₁.W.rd _ _ hy
  have lus : us0.length = 4 := by rw [IntsAre.length hus0]; rfl
  have liveNe : ∀ {a c : Addr} {ro}, ρ a = some ro → h.get? c = none → c ≠ a := fun p q z => by
    rw [z] at q; rw [W.no q] at p; cases p
  have qL : y.q ≠ L := Ne.symm (liveNe pq hLn)
  have rne : ∀ {a c : Addr} {r1 r2 : Ro}, ρ a = some r1 → ρ c = some r2 → r1 ≠ r2 → a ≠ c := fun p q n z => by
    rw [z, q] at p; cases p; exact n rfl
  refine wpAny_execs_cons (wpAny_Assign_Subscript (ldX D₁₁.F rfl ?_))
  refine ev_itemX (xs := σ.rs.map fun x => .ref x.q) (fun Q' q => ldX D₁₁.F D₁₁.mD q) hD (fun Q' q => ldX D₁₁.F rfl q) a0 (by omega) (v := .ref y.q) (by simp [hy]) ?_
  refine ldX D₁₁.F rfl ?_
  refine setItem_at hq dw0 (by omega) (by rw [List.size_toArray, lus]; omega) fun h₁₂ n' hq12 x12 => ?_
  obtain ⟨tok, hq12⟩ : ∃ tok, h₁₂.get? y.q = some (lstO (us0.toArray.setIfInBounds dw.toNat (.int iv tok)) n') := ⟨_, hq12⟩
  have F₁₂ := fr_ex D₁₁.F (Ex.sameBut x12) (by simpa using Ne.symm qL) (by simpa using (W.live _ _ pq).2)
  have v12 : ∀ {b o}, b ≠ y.q → h₁₁.get? b = some o → h₁₂.get? b = some o := fun n q => Ex.sameBut x12 _ _ (by simpa using n) q
  have hD12 := v12 (rne W.pD pq nofun) hD
  have hR12 := v12 (rne W.pR pq nofun) hR
  have hT12 := v12 (rne W.pT pq nofun) hT
  have hrd12 := v12 (rne pr pq nofun) hrd
  have hRD12 : RD h₁₂ y.d (fun i => σ.ts.getD (y.ix i) .none) := by
    obtain ⟨k1, k2, k3, k4, t1, t2, t3, t4, n, bb⟩ := hRD
    exact ⟨k1, k2, k3, k4, t1, t2, t3, t4, n, v12 (rne pd pq nofun) bb⟩
  have cT12 : h₁₂.IsCell (L + 1) (some (.ref σ.aT)) := let ⟨o, ho, z⟩ := D₁₁.cT; ⟨o, v12 (liveNe pq hn1) ho, z⟩
  refine wpAny_execs_cons (wpAny_Return_some (BoolOp_and ?_))
  refine wpAny_Compare1 (Call_ (nameX_K F₁₂ B.X B.T (by k_is) (callWith_K ((Bs.of F₁₂).in B) (by k_is) (spliced_more ?_))))
  refine ev_itemX (xs := σ.rs.map fun x => .ref x.r) (fun Q' q => ldX F₁₂ D₁₁.mR q) hR12 (fun Q' q => ldX F₁₂ rfl q) a0 (by omega) (v := .ref y.r) (by simp [hy]) ?_
  refine spliced_more (ldX F₁₂ rfl (spliced_more ?_))
  refine ev_itemX (xs := σ.ts) (fun Q' q => ldC rfl cT12 q) hT12 (fun Q' q => ldX F₁₂ rfl q) i0 (by omega) (v := v) (by simpa using hv) ?_
  refine spliced_none ⟨(Bs.of F₁₂).in B, ?_⟩
  refine set_spec B (Bs.of F₁₂) am'.mono (i := dw.toNat) (by omega) hrd12 hRD12 (by omega) fun h₁₃ t₁₃ x13 hRD13 => ?_
  have dL : y.d ≠ L := Ne.symm (liveNe pd hLn)
  have F₁₃ := fr_ex F₁₂ x13 (by simpa using Ne.symm dL) (by simpa using (W.live _ _ pd).2)
  have v13 : ∀ {b o}, b ≠ y.d → h₁₂.get? b = some o → h₁₃.get? b = some o := fun n q => x13 _ _ (by simpa using n) q
  have hD13 := v13 (rne W.pD pd nofun) hD12
  have hR13 := v13 (rne W.pR pd nofun) hR12
  have hT13 := v13 (rne W.pT pd nofun) hT12
  have hrd13 := v13 (rne pr pd nofun) hrd12
  have hq13 := v13 (rne pq pd nofun) hq12
  have cT13 : h₁₃.IsCell (L + 1) (some (.ref σ.aT)) := let ⟨o, ho, z⟩ := cT12; ⟨o, v13 (liveNe pd hn1) ho, z⟩
  have hvg : σ.ts.getD iv.toNat .none = v := by rw [List.getD_eq_getElem?_getD, hv]; rfl
  have RF : RdF h₁₃ σ.ts ⟨y.r, y.d, y.q, fun j => if j = dw.toNat then iv.toNat else y.ix j⟩ := by
    refine ⟨hrd13, ?_, fun i hi => ?_, us0.set dw.toNat (.int iv tok), n', ?_, ?_⟩
    · obtain ⟨k1, k2, k3, k4, t1, t2, t3, t4, n, bb⟩ := hRD13
      refine ⟨k1, k2, k3, k4, t1, t2, t3, t4, n, bb.trans ?_⟩
      have e : ∀ j, (if j = dw.toNat then v else σ.ts.getD (y.ix j) .none) = σ.ts.getD (if j = dw.toNat then iv.toNat else y.ix j) .none := fun j => by
        by_cases z : j = dw.toNat
        · rw [if_pos z, if_pos z, hvg]
        · rw [if_neg z, if_neg z]
      simp only [e]
    · dsimp only
      by_cases z : i = dw.toNat
      · rw [if_pos z]; omega
      · rw [if_neg z]; exact hix i hi
    · rw [hq13]
      simp
    · have := ints_set4 hus0 (d := dw.toNat) (by omega) iv.toNat tok
      rw [Int.toNat_of_nonneg i0] at this
      exact this
  have W' := W.set hy RF fun a ro o p n1 n2 q => v13 n1 (v12 n2 (D₁₁.k.keep a o (fun z => by rw [hρ a z] at p; cases p) id q))
  have c13 : Chg (frs outer) (fun c => ρ c ≠ none) h h₁₃ := by
    refine (((D₁₁.k.mono (X' := fun c => c = y.q ∨ c = y.d) fun _ _ _ z => z.elim).trans (Chg.of_ex (fs := frs outer) (Ex.sameBut x12) fun l hl' z => ?_) fun _ _ _ z => .inl (by simpa using z)).trans (Chg.of_ex (fs := frs outer) x13 fun l hl' z => ?_) fun _ _ _ z => .inr (by simpa using z)).mono fun c _ _ z => ?_
    · have := hρ l hl'; rw [List.mem_singleton.mp z, pq] at this; cases this
    · have := hρ l hl'; rw [List.mem_singleton.mp z, pd] at this; cases this
    · rcases z with rfl | rfl
      · rw [pq]; nofun
      · rw [pd]; nofun
  have fin : ∀ h' t', h₁₃.StaysIn h' → Q (.bool true) (St s h' t') := fun h' t' kk => k h' t' _ _ ⟨W'.keep fun _ _ _ _ q => kk _ _ q, rfl, rfl, rfl, rfl, by simp, by simp, by simp, id, c13.stays_right kk, fun _ z => .inl z⟩
  have W₁₃ := W'
  clear W' c13 hRD12 hRD13 hq12 hrd12
  refine wpAny_Constant_none (is_ob (.inl rfl) (.inl rfl) (wpAny_truthy_bool ?_))
  rw [if_pos (by rfl)]
  refine BoolOp_one ?_
  refine Call_ (nameX_K F₁₃ B.X B.T (by k_is) (callWith_K ((Bs.of F₁₃).in B) (by k_is) (spliced_more (List_ (spliced_more ?_)))))
  refine ev_itemX (xs := σ.rs.map fun x => .ref x.r) (fun Q' q => ldX F₁₃ D₁₁.mR q) hR13 (fun Q' q => ldX F₁₃ rfl q) a0 (by omega) (v := .ref y.r) (by simp [hy]) ?_
  refine spliced_none (newL ?_ (by simp))
  have g1 := Heap.get?_push_size h₁₃ (o := lstO [Value.ref y.r].toArray 0) rfl
  have k14 := stays_push h₁₃ (lstO [Value.ref y.r].toArray 0)
  generalize h₁₃.objs.size = l1 at *
  generalize h₁₃.push (lstO [Value.ref y.r].toArray 0) = h₁₄ at *
  refine spliced_more (List_ (spliced_more ?_))
  refine ev_itemX (xs := σ.rs.map fun x => .ref x.q) (fun Q' q => ldX (F₁₃.keeps k14) D₁₁.mD q) (k14 _ _ hD13) (fun Q' q => ldX (F₁₃.keeps k14) rfl q) a0 (by omega) (v := .ref y.q) (by simp [hy]) ?_
  refine spliced_none (newL ?_ (by simp))
  have g2 := Heap.get?_push_size h₁₄ (o := lstO [Value.ref y.q].toArray 0) rfl
  have k15 := stays_push h₁₄ (lstO [Value.ref y.q].toArray 0)
  replace g1 := k15 _ _ g1
  generalize h₁₄.objs.size = l2 at *
  generalize h₁₄.push (lstO [Value.ref y.q].toArray 0) = h₁₅ at *
  replace k15 := stays_trans k14 k15
  have F₁₅ := F₁₃.keeps k15
  refine spliced_more (ldC rfl (cT13.keeps k15) (spliced_none ⟨(Bs.of F₁₅).in B, ?_⟩))
  have W₁₅ := W₁₃.keep (h' := h₁₅) fun _ _ _ _ q => k15 _ _ q
  refine still_spec B (Bs.of F₁₅) am'.mono (rs := [⟨y.r, y.d, y.q, fun j => if j = dw.toNat then iv.toNat else y.ix j⟩]) (ts := σ.ts) g1 g2 (k15 _ _ hT13) (by simp) (by omega) (fun z hz => ?_) W₁₅.ob W₁₅.nd fun h' t' kk => fin _ _ (stays_trans k15 kk)
  rw [List.mem_singleton.mp hz]
  exact RF.stays k15
end
end Mine
end
section
open PySem PySem.W PySem.W.X PyProof.Rows PySem.Calls
namespace Mine
open Classical in
noncomputable def roT (T T' : Addr) (j : Nat) (ρ : Addr → Option Ro) (b : Addr) : Option Ro := if T' = b then some (.T j) else if T = b then none else ρ b
theorem Wd.thrown {h₀ h h' : Heap} {ρ : Addr → Option Ro} {σ : Sg} (W : Wd h₀ ρ σ h) (b0 : h₀.StaysIn h) {j : Nat} {e T y T' : Addr} {C tup : Value} {dxo : Option Addr} {x : Str} {o : Obj} (hv : σ.ts[j]? = some (.ref e)) (hk : σ.ks[j]? = some 5)
    (R : Rz h e C dxo tup xr T .none) (hA : AuxO C dxo tup y x o) (hy : h.get? y = some o) (pe : ρ e = some (.V j)) (py : ρ y = some (.X j)) (pT : ρ T = some (.T j)) (R' : Rz h' e C dxo tup xr T' .none) (hT' : h.get? T' = none ∨ T' = T)
    (kp : ∀ a ro o, ρ a = some ro → a ≠ e → a ≠ T → h.get? a = some o → h'.get? a = some o) :
    Wd h₀ (roT T T' j ρ) σ h' ∧ (∀ b, roT T T' j ρ b ≠ none → ρ b ≠ none ∨ h.get? b = none) := by
  have ro : ∀ {b r}, ρ b = some r → b ≠ T → roT T T' j ρ b = some r := fun {b r} p n => by
    unfold roT
    rw [if_neg (fun z => ?_), if_neg (fun z => n z.symm), p]
    rcases hT' with q | q
    · obtain ⟨⟨ob, hb⟩, _⟩ := W.live b r p
      rw [← z, q] at hb; cases hb
    · exact n (z.symm.trans q)
  have nT : ∀ {a r}, ρ a = some r → (∀ i, r ≠ .T i) → a ≠ T := fun p n z => by rw [z, pT] at p; cases p; exact n _ rfl
  have ne : ∀ {a r}, ρ a = some r → (∀ i, r ≠ .V i) → a ≠ e := fun p n z => by rw [z, pe] at p; cases p; exact n _ rfl
  have kk : ∀ {a r o}, ρ a = some r → (∀ i, r ≠ .T i) → (∀ i, r ≠ .V i) → h.get? a = some o → h'.get? a = some o := fun p n1 n2 q => kp _ _ _ p (ne p n2) (nT p n1) q
  obtain ⟨ts', hT2, h3T⟩ := R'.tb
  refine ⟨⟨?_, ?_, ?_, ?_, ?_, ro W.pR (nT W.pR nofun), ro W.pD (nT W.pD nofun), ro W.pT (nT W.pT nofun), ro W.pK (nT W.pK nofun), ?_, ?_, W.len, W.one⟩, ?_⟩
  · intro a r p
    unfold roT at p
    split at p
    · rename_i z
      subst z
      refine ⟨⟨_, hT2⟩, ?_⟩
      rcases hT' with q | q
      · exact none_of b0 q
      · rw [q]; exact (W.live _ _ pT).2
    split at p
    · cases p
    rename_i z1 z2
    obtain ⟨⟨oa, ha⟩, z0⟩ := W.live a r p
    refine ⟨?_, z0⟩
    by_cases q : a = e
    · exact ⟨_, q ▸ R'.exc⟩
    · exact ⟨oa, kp a r oa p q (fun z => z2 z.symm) ha⟩
  · obtain ⟨n, q⟩ := W.lR; exact ⟨n, kk W.pR nofun nofun q⟩
  · obtain ⟨n, q⟩ := W.lD; exact ⟨n, kk W.pD nofun nofun q⟩
  · obtain ⟨n, q⟩ := W.lT; exact ⟨n, kk W.pT nofun nofun q⟩
  · obtain ⟨us, n, q, r⟩ := W.lK; exact ⟨us, n, kk W.pK nofun nofun q, r⟩
  · intro i z hz
    obtain ⟨a, b, c, d⟩ := W.rd i z hz
    exact ⟨a.keepR (fun _ => kk b nofun nofun) (fun _ => kk c nofun nofun) (fun _ => kk d nofun nofun), ro b (nT b nofun), ro c (nT c nofun), ro d (nT d nofun)⟩
  · intro i v k hi hki
    by_cases q : i = j
    · subst q
      rw [hv] at hi; cases hi
      rw [hk] at hki; cases hki
      exact ⟨e, C, dxo, tup, y, o, x, T', rfl, R', hA, kk py nofun nofun hy, ro pe (nT pe nofun), ro py (nT py nofun), by unfold roT; rw [if_pos rfl]⟩
    · refine (W.th i v k hi hki).keep fun a r oa p hr z => ?_
      have n1 : a ≠ T := fun w => by rw [w, pT] at p; cases p; rcases hr with u | u | u <;> cases u; exact q rfl
      have n2 : a ≠ e := fun w => by rw [w, pe] at p; cases p; rcases hr with u | u | u <;> cases u; exact q rfl
      exact ⟨kp a r oa p n2 n1 z, ro p n1⟩
  · intro b hb
    unfold roT at hb
    split at hb
    · rename_i z
      subst z
      rcases hT' with q | q
      · exact .inr q
      · rw [q, pT]; exact .inl nofun
    split at hb
    · exact absurd rfl hb
    exact .inl hb
theorem paired_mem {α β : Type} {F : α → β → Prop} : ∀ {l : List α} {m : List β}, Paired F l m → ∀ y ∈ m, ∃ x ∈ l, F x y
  | _, _, .nil, y, hy => by cases hy
  | _, _, .cons h r, y, hy => by
    rcases List.mem_cons.mp hy with rfl | hy
    · exact ⟨_, .head _, h⟩
    · obtain ⟨x, hx, e⟩ := paired_mem r y hy
      exact ⟨x, .tail _ hx, e⟩
theorem paired_len {α β : Type} {F : α → β → Prop} : ∀ {l : List α} {m : List β}, Paired F l m → l.length = m.length
  | _, _, .nil => rfl
  | _, _, .cons _ r => by rw [List.length_cons, List.length_cons, paired_len r]
end Mine
end
section
open PySem PySem.W PySem.W.X PyProof.Rows PySem.Calls
namespace Mine
theorem fill28 : (fun (_ : OpenLaw) (_ : Params → Frag) => True) PySem.Challenge.rw_kl0193_01 hdK.heap_1 := by
  k_fill
  trivial
theorem walks_in {prog : Program} {w : World} {A : Around} {I : Addr} {fp wr : List Addr} {n : Nat} {P : Nat → Value → Prop} {S : Nat → Heap → Prop} (W : Walks prog w A I fp wr n P S) : Walks prog w A I fp wr n (fun i v => i < n ∧ P i v) S where
  sub := W.sub
  frame := W.frame
  item := fun i s Q E hi st k => W.item i s Q E hi st fun v h' tk hP => k v h' tk ⟨hi, hP⟩
  done := W.done
  self := W.self
section
variable {prog : Program} {w : World} {mg mb : Str → Option Value} {A : Around} {E : Value → Shared → Prop} {s : Shared} {h h₀ : Heap} {t : Nat} {outer : List Env} {ρ : Addr → Option Ro} {σ : Sg}
set_option maxHeartbeats 4000000 in
theorem deed2_spec (B : Base0 w mg mb h₀) (b : Bs h₀ h) (am : Am A 330 1200) (hfr : A.frames = some outer) (hl : h.FunFrames {} outer) (hb : ∀ l ∈ frs outer, h₀.get? l = none) (hρ : ∀ l ∈ frs outer, ρ l = none) (W : Wd h₀ ρ σ h) (lt : σ.ts.length ≤ 800) (lr : σ.rs.length ≤ 800) (r1 : 1 ≤ σ.rs.length) {x : Int} {tx : Tok} (hx : x.fmod 5 = 2) (h5 : 5 ∈ σ.ks) {Q : Value → Shared → Prop}
    (k : ∀ h' t' ρ' σ', Out h₀ h ρ σ (frs outer) h' ρ' σ' → Q (.bool true) (St s h' t')) :
    wpAny (model prog w) A (call (.ref 487) [.int x tx, .ref σ.aR, .ref σ.aD, .ref σ.aT, .ref σ.aK]) Q E (St s h t) := by
  refine wpAny_call (enterC B b am (binds := [("x", .int x tx), ("readers", .ref σ.aR), ("drawers", .ref σ.aD), ("things", .ref σ.aT), ("kinds", .ref σ.aK)]) (by k_is) (by k_is) rfl ?_ (fun h₁ t₁ F k₁ hc => ?_))
  · intro L x hx
    simp only [List.mem_cons, List.not_mem_nil, or_false] at hx
    rcases hx with rfl | rfl | rfl | rfl | rfl
    · exact .inl rfl
    · exact .inl rfl
    · exact .inl rfl
    · exact .inr ⟨rfl, rfl⟩
    · exact .inr ⟨rfl, rfl⟩
  have hLn := size_none h
  have hn1 : h.get? (h.objs.size + 1) = none := Heap.get?_none_of_le (by omega)
  have hn2 : h.get? (h.objs.size + 2) = none := Heap.get?_none_of_le (by omega)
  have hc0 : h₁.IsCell (h.objs.size + 1) (some (.ref σ.aT)) := hc "things" _ rfl
  have hc1 : h₁.IsCell (h.objs.size + 2) (some (.ref σ.aK)) := hc "kinds" _ rfl
  have hF : Fr h₀ h.objs.size h₁ (fun y => if y = "drawers" then some (.ref σ.aD) else if y = "readers" then some (.ref σ.aR) else if y = "x" then some (.int x tx) else none) := F
  clear hc F
  generalize h.objs.size = L at *
  refine wpAny_mono ?_ (fun _ _ x => x) (fun _ _ (x : False) => x.elim)
  change wpAny (model prog w) (A.deeper (dE L)) (execs _ (dE L)) _ _ _
  have am' : Am (A.deeper (dE L)) 331 1203 := am.deeper _
  have hfr' := Around.frames_deeper (env := dE L) hfr
  generalize A.deeper _ = A' at *
  have D₁ : Dx (frs outer) h₀ h ρ σ L h₁ _ := ⟨hF, W.keep fun _ _ _ _ q => k₁ _ _ q, hc0, hc1, rfl, rfl, Chg.of_stays k₁, hLn, W.no hLn, funF_not hl hLn, funF_not hl hn1, funF_not hl hn2⟩
  clear hF hc0 hc1
  refine asg2 am'.handled (wpAny_BinOp (ldX D₁.F rfl (kI (modS (by decide) fun dv ed d0 d5 => ?_))))
  refine wpAny_BinOp (ldX D₁.F rfl (kI (divS (by decide) (by decide) fun rv er => ⟨_, _, rfl, fun h₂ k₂ => ?_⟩)))
  have D₂ := D₁.stays k₂
  refine stX D₂.F fun h₃ F₃ x₃ => stX F₃ fun h₄ F₄ x₄ => ?_
  have D₄ := (D₂.set F₃ x₃ rfl rfl).set F₄ x₄ rfl rfl
  clear D₁ D₂
  rw [hx] at ed
  subst ed
  refine wpAny_execs_cons (wpAny_If (wpAny_isTrue_Compare1 (ldX D₄.F rfl (kI (eq_int (wpAny_truthy_bool ?_))))))
  rw [if_neg (by decide)]
  refine wpAny_execs_nil ?_
  obtain ⟨nR, hR⟩ := D₄.W.lR
  have r0 : (0 : Int) < ((σ.rs.map fun x => Value.ref x.r).length : Int) := by rw [List.length_map]; omega
  have r2 : ((σ.rs.map fun x => Value.ref x.r).length : Int) < 1000000 := by rw [List.length_map]; omega
  refine asg2 am'.handled (wpAny_BinOp (ldX D₄.F rfl (ev_lenX B D₄.F (fun Q' q => ldX D₄.F D₄.mR q) hR (by rw [List.length_map]; omega) fun u5 t5 => modS r0 fun av ea a0 aN => ?_)))
  refine wpAny_BinOp (ldX D₄.F rfl (ev_lenX B D₄.F (fun Q' q => ldX D₄.F D₄.mR q) hR (by rw [List.length_map]; omega) fun u6 t6 => divS r0 r2 fun rv2 er2 => ⟨_, _, rfl, fun h₅ k₅ => ?_⟩))
  have D₅ := D₄.stays k₅
  refine stX D₅.F fun h₆ F₆ x₆ => stX F₆ fun h₇ F₇ x₇ => ?_
  have D₇ := (D₅.set F₆ x₆ rfl rfl).set F₇ x₇ rfl rfl
  clear D₄ D₅ F₆ F₇ F₃ F₄ hR nR
  rw [List.length_map] at aN
  obtain ⟨y, hy⟩ : ∃ y, σ.rs[av.toNat]? = some y := ⟨_, List.getElem?_eq_getElem (by omega)⟩
  refine wpAny_execs_cons (wpAny_If (wpAny_isTrue_Compare1 (ldX D₇.F rfl (kI (eq_int (wpAny_truthy_bool ?_))))))
  rw [if_neg (by decide)]
  refine wpAny_execs_nil ?_
  refine asg2 am'.handled (wpAny_BinOp (ldX D₇.F rfl (kI (modS (by decide) fun dw edw dw0 dw4 => ?_))))
  refine wpAny_BinOp (ldX D₇.F rfl (kI (divS (by decide) (by decide) fun rv3 er3 => ⟨_, _, rfl, fun h₈ k₈ => ?_⟩)))
  have D₈ := D₇.stays k₈
  refine stX D₈.F fun h₉ F₉ x₉ => stX F₉ fun h₁₀ F₁₀ x₁₀ => ?_
  have D₁₀ := (D₈.set F₉ x₉ rfl rfl).set F₁₀ x₁₀ rfl rfl
  clear D₇ D₈ F₉ F₁₀
  refine wpAny_execs_cons (wpAny_If (wpAny_isTrue_Compare1 (ldX D₁₀.F rfl (kI (eq_int (wpAny_truthy_bool ?_))))))
  rw [if_neg (by decide)]
  refine wpAny_execs_nil ?_
  obtain ⟨nD, hD⟩ := D₁₀.W.lD
  obtain ⟨nR, hR⟩ := D₁₀.W.lR
  obtain ⟨⟨hrd, hRD, hix, us0, nq, hq, hus0⟩, pr, pd, pq⟩ := D₁₀.W.rd _ _ hy
  obtain ⟨tth, hth⟩ := ints_at4 hus0 dw0 dw4
  refine asgX (Subscript_ ?_)
  refine ev_itemX (xs := σ.rs.map fun x => .ref x.q) (fun Q' q => ldX D₁₀.F D₁₀.mD q) hD (fun Q' q => ldX D₁₀.F rfl q) a0 (by omega) (v := .ref y.q) (by simp [hy]) ?_
  refine ldX D₁₀.F rfl ?_
  refine item_temp (items := us0.toArray) (x := .int (y.ix dw.toNat : Int) tth) ⟨_, hq, rfl, _, rfl⟩ dw0 (by omega) (by simpa using hth) ?_
  refine stX D₁₀.F fun h₁₁ F₁₁ x₁₁ => ?_
  have D₁₁ := D₁₀.set F₁₁ x₁₁ rfl rfl
  clear D₁₀ F₁₁ hD hR hrd hRD hq pr pd pq
  obtain ⟨nR, hR⟩ := D₁₁.W.lR
  obtain ⟨⟨hrd, hRD, hix, us0, nq, hq, hus0⟩, pr, pd, pq⟩ := D₁₁.W.rd _ _ hy
  have hvN : ∀ i, i < 4 → Nr (σ.ts.getD (y.ix i) .none) := fun i hi => by
    have hm : σ.ts.getD (y.ix i) .none ∈ σ.ts := by
      rw [List.getD_eq_getElem?_getD, List.getElem?_eq_getElem (hix i hi)]
      exact List.getElem_mem _
    rcases D₁₁.W.ob _ hm with z | ⟨a, o, z, _⟩
    · exact .inl z
    · exact .inr ⟨a, z⟩
  refine asgX (Subscript_ ?_)
  refine Call_ (nameX_K D₁₁.F B.X B.T (by k_is) (callWith_K ((Bs.of D₁₁.F).in B) (by k_is) (spliced_more ?_)))
  refine ev_itemX (xs := σ.rs.map fun x => .ref x.r) (fun Q' q => ldX D₁₁.F D₁₁.mR q) hR (fun Q' q => ldX D₁₁.F rfl q) a0 (by omega) (v := .ref y.r) (by simp [hy]) ?_
  refine spliced_none ⟨(Bs.of D₁₁.F).in B, ?_⟩
  refine lies_spec B (Bs.of D₁₁.F) am'.mono hrd hRD hvN fun h₁₂ t₁₂ al nl k₁₂ fal hal => ?_
  have D₁₂ := D₁₁.stays k₁₂
  refine ldX D₁₂.F rfl ?_
  refine item_temp (x := σ.ts.getD (y.ix dw.toNat) .none) ⟨_, hal, rfl, _, rfl⟩ dw0 (by omega) (four_at (fun i => σ.ts.getD (y.ix i) .none) dw0 dw4) ?_
  refine stX D₁₂.F fun h₁₃ F₁₃ x₁₃ => ?_
  have D₁₃ := D₁₂.set F₁₃ x₁₃ rfl rfl
  clear D₁₁ D₁₂ F₁₃ hR hrd hRD hq pr pd pq hal
  have hxi : y.ix dw.toNat < σ.ts.length := hix _ (by omega)
  obtain ⟨kd, hkd⟩ : ∃ kd, σ.ks[y.ix dw.toNat]? = some kd := ⟨_, List.getElem?_eq_getElem (by rw [W.len]; exact hxi)⟩
  have hvd : σ.ts[y.ix dw.toNat]? = some (σ.ts.getD (y.ix dw.toNat) .none) := by rw [List.getD_eq_getElem?_getD, List.getElem?_eq_getElem hxi]; rfl
  have hTh := D₁₃.W.th _ _ _ hvd hkd
  refine wpAny_execs_cons (wpAny_If (wpAny_isTrue_Compare1 (ldX D₁₃.F rfl (kI (eq_int (wpAny_truthy_bool ?_))))))
  rw [if_pos (by decide)]
  obtain ⟨nT, hT⟩ := D₁₃.W.lT
  obtain ⟨us, nK, hK, hus⟩ := D₁₃.W.lK
  have hTL : σ.aT ≠ L := fun z => by have := W.pT; rw [z, W.no hLn] at this; cases this
  have hKL : σ.aK ≠ L := fun z => by have := W.pK; rw [z, W.no hLn] at this; cases this
  refine wpAny_execs_cons (wpAny_Assign_ListComp_free (cl := [("things", L + 1), ("kinds", L + 2)]) (fun v => match v with | .int i _ => decide (σ.ks[i.toNat]? = some 5) | _ => false) (fun v yv => match v with | .int i _ => yv = σ.ts.getD i.toNat .none | _ => False) rfl rfl (by decide) rfl (by decide) rfl rfl rfl ?_)
  refine ev_range_lenX B D₁₃.F (fun Q' q => ldC rfl D₁₃.cT q) hT (by omega) fun r h₁₄ t₁₄ k₁₄ hr => ?_
  obtain ⟨u1, u2, u3, hr⟩ := hr
  have D₁₄ := D₁₃.stays k₁₄
  refine wpAny_pyIter_range hr (range_small _ (by omega)) ?_
  rw [range_size]
  have hit := Heap.get?_push_size h₁₄ (o := { cls := .type "range_iterator", data := .fields #[rawInt 0, rawInt (σ.ts.length : Int), rawInt 1] }) rfl
  have kp := stays_push h₁₄ { cls := .type "range_iterator", data := .fields #[rawInt 0, rawInt (σ.ts.length : Int), rawInt 1] }
  have hI := size_none h₁₄
  have D₁₅ := D₁₄.stays kp
  have hsz : h₁₄.objs.size < (h₁₄.push { cls := .type "range_iterator", data := .fields #[rawInt 0, rawInt (σ.ts.length : Int), rawInt 1] }).objs.size := Heap.lt_size hit
  generalize hI0 : h₁₄.objs.size = I at *
  generalize h₁₄.push _ = h₁₅ at *
  have hIL : I ≠ L := fr_ne D₁₄.F hI
  refine ⟨I, [I], [I], σ.ts.length, _, _, _, rfl, walks_in (Walks.range (prog := prog) (w := w) am'.handled I 0 1 σ.ts.length), by rw [sizeLine_eq]; omega, ?_, ?_, ?_, D₁₅.F.ns, ⟨?_, ?_⟩, ?_⟩
  · simpa using hit
  · intro bb hbb
    rw [List.mem_singleton.mp hbb]; exact hsz
  · simpa using Ne.symm hIL
  · rintro C i v s₅ m₅ E' hC ⟨hi, tv, rfl⟩ hn hm hk htk
    have e1 : (0 : Int) + (i : Int) * 1 = (i : Int) := by omega
    rw [e1] at hm ⊢
    have k5 : ∀ bb oo, bb ≠ I → h₁₅.get? bb = some oo → s₅.heap.get? bb = some oo := fun bb oo n q => hk bb oo (by simpa using n) q
    have hc5 : s₅.heap.IsCell (L + 2) (some (.ref σ.aK)) := let ⟨o, ho, z⟩ := D₁₄.cK; ⟨o, k5 _ _ (ne_of ho hI) (kp _ _ ho), z⟩
    have hKK : s₅.heap.get? σ.aK = some (lstO us.toArray nK) := k5 _ _ (ne_of (k₁₄ _ _ hK) hI) (kp _ _ (k₁₄ _ _ hK))
    obtain ⟨kk, hkk⟩ : ∃ kk, σ.ks[i]? = some kk := ⟨_, List.getElem?_eq_getElem (by rw [W.len]; exact hi)⟩
    obtain ⟨tkd, hkd'⟩ := ints_at hus (i := i) (n := (kk : Int)) (by rw [List.getElem?_map, hkk]; rfl)
    refine wpAny_tests_one (wpAny_isTrue_Compare1 ?_)
    change wpAny (model prog w) A' _ _ _ (St s₅ s₅.heap s₅.toks)
    refine ev_itemX (xs := us) (fun Q' q => wpAny_Name (wpAny_loadName_cell rfl rfl (c := L + 2) rfl hc5 q) (by decide)) hKK (fun Q' q => wpAny_Name (wpAny_loadName_local rfl rfl hn hm q) (by decide)) (by omega) (by omega) (v := .int (kk : Int) tkd) (by simpa using hkd') ?_
    refine kI (eq_int (wpAny_truthy_bool ⟨?_, s₅.heap, _, rfl, fun _ _ e => e⟩))
    change ((kk : Int) == 5) = decide (σ.ks[i]? = some 5)
    rw [hkk]
    refine (cast_eq kk 5).trans ?_
    by_cases z : kk = 5
    · subst z; rfl
    · rw [beq_false_of_ne z, decide_eq_false (by simpa using z)]
  · rintro C i v s₅ m₅ E' hC ⟨hi, tv, rfl⟩ _ hn hm hk htk
    have e1 : (0 : Int) + (i : Int) * 1 = (i : Int) := by omega
    rw [e1] at hm ⊢
    have k5 : ∀ bb oo, bb ≠ I → h₁₅.get? bb = some oo → s₅.heap.get? bb = some oo := fun bb oo n q => hk bb oo (by simpa using n) q
    have hc5 : s₅.heap.IsCell (L + 1) (some (.ref σ.aT)) := let ⟨o, ho, z⟩ := D₁₄.cT; ⟨o, k5 _ _ (ne_of ho hI) (kp _ _ ho), z⟩
    have hTT : s₅.heap.get? σ.aT = some (lstO σ.ts.toArray nT) := k5 _ _ (ne_of (k₁₄ _ _ hT) hI) (kp _ _ (k₁₄ _ _ hT))
    change wpAny (model prog w) A' _ _ _ (St s₅ s₅.heap s₅.toks)
    refine ev_itemX (xs := σ.ts) (fun Q' q => wpAny_Name (wpAny_loadName_cell rfl rfl (c := L + 1) rfl hc5 q) (by decide)) hTT (fun Q' q => wpAny_Name (wpAny_loadName_local rfl rfl hn hm q) (by decide)) (by omega) (by omega) (v := σ.ts.getD i .none) (by rw [Int.toNat_natCast, List.getD_eq_getElem?_getD, List.getElem?_eq_getElem hi]; rfl) ?_
    exact ⟨rfl, s₅.heap, s₅.toks, rfl, fun _ _ e => e⟩
  · intro Dl h₁₆ tk ys vs hDn hl hpl hlen hP hFp hNs hkp
    have kp16 : ∀ bb oo, bb ≠ L → h₁₄.get? bb = some oo → h₁₆.get? bb = some oo := fun bb oo n q => hkp bb oo n (by simpa using ne_of q hI) (kp _ _ q)
    have x16 : Ex [L] h₁₄ h₁₆ := fun bb oo n q => kp16 bb oo (by simpa using n) q
    have F₁₆ : Fr h₀ L h₁₆ _ := ⟨hNs, fun bb oo q => kp16 bb oo (fun z => by rw [z, fr_low D₁₄.F] at q; cases q) (D₁₄.F.keep bb oo q), D₁₄.F.above⟩
    have D₁₆ := D₁₄.set F₁₆ x16 rfl rfl
    have mem : ∀ yv ∈ ys.toList, ∃ i, σ.ks[i]? = some 5 ∧ σ.ts[i]? = some yv := fun yv hyv => by
      obtain ⟨v, hvm, e⟩ := paired_mem hFp yv hyv
      obtain ⟨hvm, hp⟩ := List.mem_filter.mp hvm
      obtain ⟨i, hi, rfl⟩ := List.getElem_of_mem hvm
      obtain ⟨hi2, tv, ev⟩ := hP i _ (List.getElem?_eq_getElem hi)
      rw [ev] at e hp
      have e1 : (0 : Int) + (i : Int) * 1 = (i : Int) := by omega
      rw [e1] at e hp
      have hp' : σ.ks[i]? = some 5 := by simpa using hp
      have e' : yv = σ.ts.getD i .none := e
      refine ⟨i, hp', ?_⟩
      rw [e', List.getD_eq_getElem?_getD, List.getElem?_eq_getElem hi2]; rfl
    have pos : 0 < ys.toList.length := by
      rw [← paired_len hFp]
      obtain ⟨i0, hi0, e0⟩ := List.getElem_of_mem h5
      have hi1 : i0 < vs.length := by rw [hlen, ← W.len]; exact hi0
      obtain ⟨hi2, tv, ev⟩ := hP i0 _ (List.getElem?_eq_getElem hi1)
      have e1 : (0 : Int) + (i0 : Int) * 1 = (i0 : Int) := by omega
      rw [e1] at ev
      refine List.length_pos_of_mem (a := vs[i0]) (List.mem_filter.mpr ⟨List.getElem_mem _, ?_⟩)
      rw [ev]
      change decide (σ.ks[i0]? = some 5) = true
      rw [List.getElem?_eq_getElem hi0, e0]; simp
    have lys : ys.toList.length ≤ 800 := by
      rw [← paired_len hFp]
      exact Nat.le_trans (List.length_filter_le _ _) (by omega)
    obtain ⟨od, hod, hodc, nd, hodd⟩ := id hl
    have DlL : Dl ≠ L := fun z => by
      obtain ⟨o1, q1⟩ := fr_live D₁₅.F
      rw [z, q1] at hDn; cases hDn
    obtain ⟨ndl, hDl⟩ := hpl
    have hDl' : h₁₆.get? Dl = some (lstO ys.toList.toArray ndl) := by rw [Array.toArray_toList]; exact hDl
    clear hit hsz hNs D₁₅ D₁₄ D₁₃ F₁₆ hT hK hTh
    change wpAny (model prog w) A' _ _ _ (St s h₁₆ tk)
    refine asgX (Subscript_ (ldX D₁₆.F (if_pos rfl) ?_))
    refine wpAny_BinOp (wpAny_BinOp (ldX D₁₆.F rfl (kI (divS (by decide) (by decide) fun q2 _ => ?_))))
    refine ev_lenX B D₁₆.F (fun Q' q => ldX D₁₆.F (if_pos rfl) q) hDl' (by omega) fun u17 t17 => modS (by omega) fun iv _ i0 iN => ?_
    obtain ⟨ev, hev⟩ : ∃ ev, ys.toList[iv.toNat]? = some ev := ⟨_, List.getElem?_eq_getElem (by omega)⟩
    refine item_list (items := ys.toList.toArray) (x := ev) ⟨_, hDl', rfl, _, rfl⟩ i0 (by omega) (by simpa using hev) ?_
    obtain ⟨i, hk5, htv⟩ := mem ev (List.mem_of_getElem? hev)
    refine stX D₁₆.F fun h₁₇ F₁₇ x₁₇ => ?_
    have D₁₇ := D₁₆.set F₁₇ x₁₇ rfl rfl
    clear D₁₆ F₁₇ hDl hDl' hDn hl hod
    obtain ⟨e, C, dxo, tup, yy, oo, xx, T, rfl, R, hA, hyy, pe, py, pT⟩ := D₁₇.W.th _ _ _ htv hk5
    have hl₁₇ : h₁₇.FunFrames {} outer := funF_of_chg D₁₇.k hl fun b hb => hb
    have hF₁₇ : h₁₇.FunFrames {} (dE L :: outer) := Heap.FunFrames.cons nofun rfl D₁₇.F.ns rfl hl₁₇
    have hb' : ∀ l ∈ frs (dE L :: outer), h₀.get? l = none := fun l hl' => by
      rcases List.mem_cons.mp hl' with rfl | z
      · exact none_of b.keep hLn
      · exact hb l z
    refine wpAny_execs_cons (wpAny_Return_some (wpAny_Compare1 ?_))
    refine Call_ (nameX_K D₁₇.F B.X B.T (by k_is) (callWith_K ((Bs.of D₁₇.F).in B) (by k_is) (spliced_more (ldX D₁₇.F rfl (spliced_more (ldX D₁₇.F (if_pos rfl) (spliced_more ?_)))))))
    refine wpAny_Compare1 (wpAny_BinOp (ldX D₁₇.F rfl (kI (modS (by decide) fun fv _ _ _ => kI (eq_int (spliced_none ⟨(Bs.of D₁₇.F).in B, ?_⟩))))))
    have out : ∀ {h' : Heap} {t' : Nat} {m : Str → Option Value}, Dx (frs outer) h₀ h ρ σ L h' m → Q (.bool true) (St s h' t') := fun D => k _ _ ρ σ ⟨D.W, rfl, rfl, rfl, rfl, by omega, by omega, by omega, id, D.k.mono fun _ _ _ z => z.elim, fun _ z => .inl z⟩
    refine handed_spec B (Bs.of D₁₇.F) am'.mono hfr' hF₁₇ hb' (D₁₇.W.th _ _ _ hvd hkd).thing R hA (W.live _ _ pe).2 (W.live _ _ pT).2 (fun hk3 h₁₈ t₁₈ T' R' c hT' => ?_) (fun hk3 h₁₈ t₁₈ c => ?_)
    · subst hk3
      have eL : e ≠ L := fun z => by rw [z, W.no hLn] at pe; cases pe
      have TL : T ≠ L := fun z => by rw [z, W.no hLn] at pT; cases pT
      have ef : ∀ {a r}, ρ a = some r → a ∉ L :: frs outer := fun p z => by
        rcases List.mem_cons.mp z with rfl | z
        · rw [W.no hLn] at p; cases p
        · rw [hρ _ z] at p; cases p
      obtain ⟨W', nw⟩ := D₁₇.W.thrown (Bs.of D₁₇.F).keep htv hk5 R hA hyy pe py pT R' hT' fun a r oa p n1 n2 q => c.keep a oa (ef p) (fun z => z.elim n1 n2) q
      have F₁₈ := fr_chg D₁₇.F c (fun bb z => by rcases z with rfl | rfl; exact (W.live _ _ pe).2; exact (W.live _ _ pT).2) hb
      have cK18 : h₁₈.IsCell (L + 2) (some (.ref σ.aK)) := let ⟨o, ho, z⟩ := D₁₇.cK; ⟨o, c.keep _ _ (fun w => (List.mem_cons.mp w).elim (neK L) D₁₇.nC.2.2) (fun w => by
        rcases w with w | w
        · rw [← w, W.no hn2] at pe; cases pe
        · rw [← w, W.no hn2] at pT; cases pT) ho, z⟩
      obtain ⟨us', nK', hK', hus'⟩ := W'.lK
      obtain ⟨tkd, hkd'⟩ := ints_at hus' (i := y.ix dw.toNat) (n := ((3 : Nat) : Int)) (by rw [List.getElem?_map, hkd]; rfl)
      refine IfExp_ (wpAny_isTrue_Compare1 ?_)
      refine ev_itemX (xs := us') (fun Q' q => ldC rfl cK18 q) hK' (fun Q' q => ldX F₁₈ rfl q) (by omega) (by omega) (v := .int ((3 : Nat) : Int) tkd) (by simpa using hkd') ?_
      refine kI (eq_int (wpAny_truthy_bool ?_))
      rw [if_pos (by decide)]
      refine ldX F₁₈ (if_pos rfl) ?_
      refine wpAny_is_ref_self ?_
      refine k _ _ _ σ ⟨W', rfl, rfl, rfl, rfl, by omega, by omega, by omega, id, ?_, fun bb z => (nw bb z).imp id D₁₇.k.none⟩
      refine ((D₁₇.k.mono (X' := fun bb => bb = L ∨ (bb = e ∨ bb = T)) fun _ _ _ z => z.elim).trans c.pop fun _ _ _ z => z).mono fun bb ob q z => ?_
      rcases z with z | z | z
      · rw [z, hLn] at q; cases q
      · rw [z, pe]; nofun
      · rw [z, pT]; nofun
    · have D₁₈ := D₁₇.chg c hb hρ
      obtain ⟨us', nK', hK', hus'⟩ := D₁₈.W.lK
      obtain ⟨tkd, hkd'⟩ := ints_at hus' (i := y.ix dw.toNat) (n := (kd : Int)) (by rw [List.getElem?_map, hkd]; rfl)
      refine IfExp_ (wpAny_isTrue_Compare1 ?_)
      refine ev_itemX (xs := us') (fun Q' q => ldC rfl D₁₈.cK q) hK' (fun Q' q => ldX D₁₈.F rfl q) (by omega) (by omega) (v := .int (kd : Int) tkd) (by simpa using hkd') ?_
      refine kI (eq_int (wpAny_truthy_bool ?_))
      rw [if_neg (by simp; omega)]
      refine wpAny_Constant_none (is_ob (.inl rfl) (.inl rfl) ?_)
      exact out D₁₈
end
end Mine
end
section
open PySem PySem.W PySem.W.X PyProof.Rows PySem.Calls
namespace Mine
theorem fill29 : (fun (_ : OpenLaw) (_ : Params → Frag) => True) PySem.Challenge.rw_kl0193_01 hdK.heap_1 := by
  k_fill
  trivial
section
variable {prog : Program} {w : World} {mg mb : Str → Option Value} {A : Around} {E : Value → Shared → Prop} {s : Shared} {h h₀ : Heap} {t : Nat} {outer : List Env} {ρ : Addr → Option Ro} {σ : Sg}
theorem deed_spec (B : Base0 w mg mb h₀) (b : Bs h₀ h) (am : Am A 330 1200) (hfr : A.frames = some outer) (hl : h.FunFrames {} outer) (hb : ∀ l ∈ frs outer, h₀.get? l = none) (hρ : ∀ l ∈ frs outer, ρ l = none) (W : Wd h₀ ρ σ h) (lt : σ.ts.length ≤ 800) (lr : σ.rs.length ≤ 800) (r1 : 1 ≤ σ.rs.length) {x : Int} {tx : Tok} (h5 : x.fmod 5 = 1 ∨ 5 ∈ σ.ks) {Q : Value → Shared → Prop}
    (k : ∀ h' t' ρ' σ', Out h₀ h ρ σ (frs outer) h' ρ' σ' → 5 ∈ σ'.ks → Q (.bool true) (St s h' t')) :
    wpAny (model prog w) A (call (.ref 487) [.int x tx, .ref σ.aR, .ref σ.aD, .ref σ.aT, .ref σ.aK]) Q E (St s h t) := by
  have l0 := fmod_lo x (b := 5) (by decide)
  have l5 := fmod_hi x (b := 5) (by decide)
  by_cases q1 : x.fmod 5 = 1
  · exact deed1_spec B b am hfr hl hb hρ W lt lr r1 q1 k
  have h5' : 5 ∈ σ.ks := h5.resolve_left q1
  have five : x.fmod 5 = 0 ∨ x.fmod 5 = 2 ∨ x.fmod 5 = 3 ∨ x.fmod 5 = 4 := by omega
  rcases five with q | q | q | q
  · exact deed0_spec B b am hfr hl hb hρ W lt lr r1 q fun h' t' ρ' σ' o => k h' t' ρ' σ' o (o.five h5')
  · exact deed2_spec B b am hfr hl hb hρ W lt lr r1 q h5' fun h' t' ρ' σ' o => k h' t' ρ' σ' o (o.five h5')
  · exact deed3_spec B b am hfr hl hb hρ W lt lr r1 q fun h' t' ρ' σ' o => k h' t' ρ' σ' o (o.five h5')
  · exact deed4_spec B b am hfr hl hb hρ W lt lr r1 q fun h' t' ρ' σ' o => k h' t' ρ' σ' o (o.five h5')
theorem add2 {l b n n2 : Nat} {xs ys : Array Value} {Q : Value → Shared → Prop} (hl : h.get? l = some (lstO xs n)) (hb : h.get? b = some (lstO ys n2)) (hsz : xs.size + ys.size ≤ 1000)
    (k : Q (.ref h.objs.size) (St s (h.push (lstO (xs ++ ys) 0)) t)) : wpAny (model prog w) A (binaryOp .Add (.ref l) (.ref b)) Q E (St s h t) :=
  concat_meets ⟨_, hl, rfl⟩ ⟨_, hb, rfl⟩ noFill_list_add seq_list_add PySem.F.slot_list_add PySem.F.entry_list_add (PySem.F.args_list_add_2 _ _) (list_addW l b xs ys n n2 none none #[] #[] (by rw [sizeLine_eq]; omega)) ⟨hl, hb, k⟩
theorem ev_deeds {env : Env} {a : Addr} {vs : List Value} {ns : List Int} {q0 q1 q2 q3 q4 q5 q6 : Nat} {p0 p1 p2 p3 p4 p5 pl ps p6 p7 p8 p9 : Pos} {Q : Value → Shared → Prop} (hm : ∀ (Q' : Value → Shared → Prop) h' t', h.StaysIn h' → Q' (.ref a) (St s h' t') → wpAny (model prog w) A (eval (.Name "script" ps) env) Q' E (St s h' t'))
    (hL : h.IsList a vs.toArray) (hI : IntsAre vs ns) (hn : ns.length ≤ 63)
    (k : ∀ r h' t' ws, h.StaysIn h' → h.get? r = none → h'.IsList r (List.toArray ws) → IntsAre ws ([6, 35, 4, 77, 51, 343] ++ ns.take 16) → Q (.ref r) (St s h' t')) :
    wpAny (model prog w) A (eval (.BinOp (.List [.Constant (.int 6) q0 p0, .Constant (.int 35) q1 p1, .Constant (.int 4) q2 p2, .Constant (.int 77) q3 p3, .Constant (.int 51) q4 p4, .Constant (.int 343) q5 p5] pl) .Add (.Subscript (.Name "script" ps) (.Slice none (some (.Constant (.int 16) q6 p6)) none p7) p8) p9) env) Q E (St s h t) := by
  have hvl := IntsAre.length hI
  refine wpAny_BinOp (List_ (spliced_more ?_))
  refine kI (spliced_more ?_)
  refine kI (spliced_more ?_)
  refine kI (spliced_more ?_)
  refine kI (spliced_more ?_)
  refine kI (spliced_more ?_)
  refine kI (spliced_none (newL ?_ (by simp)))
  have i6 : IntsAre ([.int 6 t, .int 35 (t + 1), .int 4 (t + 1 + 1), .int 77 (t + 1 + 1 + 1), .int 51 (t + 1 + 1 + 1 + 1), .int 343 (t + 1 + 1 + 1 + 1 + 1)] : List Value) [6, 35, 4, 77, 51, 343] := .cons _ _ (.cons _ _ (.cons _ _ (.cons _ _ (.cons _ _ (.cons _ _ .nil)))))
  revert i6
  generalize ([.int 6 t, .int 35 (t + 1), .int 4 (t + 1 + 1), .int 77 (t + 1 + 1 + 1), .int 51 (t + 1 + 1 + 1 + 1), .int 343 (t + 1 + 1 + 1 + 1 + 1)] : List Value) = w6
  intro i6
  have l6 := IntsAre.length i6
  have g1 := Heap.get?_push_size h (o := lstO w6.toArray 0) rfl
  have k1 := stays_push h (lstO w6.toArray 0)
  generalize h.objs.size = b6 at *
  generalize h.push (lstO w6.toArray 0) = h1 at *
  refine wpAny_Subscript_list_slice (hm _ _ _ k1 ?_)
  rw [evalPart_none]
  refine wpAny_pure ?_
  rw [evalPart_some]
  refine kI ?_
  have hL1 : h1.IsList a vs.toArray := let ⟨o, ho, q⟩ := hL; ⟨o, k1 _ _ ho, q⟩
  refine ⟨a, vs.toArray, none, some 16, rfl, hL1, by rw [List.size_toArray, sizeLine_eq]; omega, .none, .int _ _, ?_⟩
  have i16 := slice_ints_uptoW hI (y := 16) (by decide)
  have l16 := IntsAre.length i16
  have hsz : (slicePick vs.toArray none (some 16) none).size ≤ 16 := by
    rw [← Array.length_toList, l16]; exact List.length_take_le _ _
  have kk : ∀ o1 o2, h1.StaysIn ((h1.push o1).push o2) := fun o1 o2 => stays_trans (stays_push _ _) (stays_push _ _)
  have g2 : ∀ o1, ((h1.push o1).push (lstO (slicePick vs.toArray none (some 16) none) 0)).get? (h1.objs.size + 1) = some (lstO (slicePick vs.toArray none (some 16) none) 0) := fun o1 => by
    have := Heap.get?_push_size (h1.push o1) (o := lstO (slicePick vs.toArray none (some 16) none) 0) rfl
    rwa [Heap.size_push] at this
  refine add2 (kk _ _ _ _ g1) (g2 _) (by rw [List.size_toArray, l6]; simp only [List.length_cons, List.length_nil]; omega) ?_
  refine k _ _ _ (w6 ++ (slicePick vs.toArray none (some 16) none).toList) (stays_trans k1 (stays_trans (kk _ _) (stays_push _ _))) (none_of (stays_trans k1 (kk _ _)) (size_none _)) ⟨_, Heap.get?_push_size _ rfl, rfl, 0, ?_⟩ (IntsAre.append i6 i16)
  simp
end
end Mine
end
section
open PySem PySem.W PySem.W.X PyProof.Rows PySem.Calls
namespace Mine
theorem fill30 : (fun (_ : OpenLaw) (_ : Params → Frag) => True) PySem.Challenge.rw_kl0193_01 hdK.heap_1 := by
  k_fill
  trivial
abbrev scLaw : Scope := { kind := ScopeKind.function, names := [(Str.ofString "script", NameKind.local), (Str.ofString "readers", NameKind.local), (Str.ofString "drawers", NameKind.local), (Str.ofString "things", NameKind.local), (Str.ofString "kinds", NameKind.local), (Str.ofString "x", NameKind.local), (Str.ofString "_law_begin", NameKind.globalImplicit), (Str.ofString "_law_deed", NameKind.globalImplicit), (Str.ofString "_law_still", NameKind.globalImplicit)], isGenerator := false, isCoroutine := false }
def ro0 (aR aD aT aK l1 l2 b : Addr) : Option Ro := if aR = b then some (.L 0) else if aD = b then some (.L 1) else if aT = b then some (.L 2) else if aK = b then some (.L 3) else if l1 = b then some (.V 1) else if l2 = b then some (.V 2) else none
section
variable {prog : Program} {w : World} {mg mb : Str → Option Value} {A : Around} {E : Value → Shared → Prop} {s : Shared} {h h₀ : Heap} {t : Nat} {outer : List Env} {ρ : Addr → Option Ro} {σ : Sg}
theorem ints_val {us : List Value} {ns : List Int} (x : IntsAre us ns) : ∀ {i : Nat} {v : Value}, us[i]? = some v → ∃ n u, v = .int n u ∧ ns[i]? = some n := by
  induction x with
  | nil => intro i n h; cases h
  | cons a t r ih =>
    intro i n h
    cases i with
    | zero => cases h; exact ⟨a, t, rfl, rfl⟩
    | succ i => exact ih h
theorem newLi {vs : List Value} {ns : List Int} {M : Model} {Q : Value → Shared → Prop} (hv : IntsAre vs ns) (hsz : ns.length ≤ 1000) (k : ∀ ws, IntsAre ws ns → Q (.ref h.objs.size) (St s (h.push (lstO ws.toArray 0)) t)) : wpAny M A (newList vs) Q E (St s h t) :=
  newL (k vs hv) (by rw [IntsAre.length hv]; omega)
theorem law_start {L fa : Addr} {cd : Value} {m : Str → Option Value} (F : Fr h₀ L h m) {rest : List Stmt} {Q : Flow → Shared → Prop} {x1 x2 x3 x4 x5 x6 x7 x8 x9 y1 y2 y3 y4 y5 y6 y7 y8 y9 : Pos} {z0 z1 z2 z3 : Nat}
    (k : ∀ h' t' m' aR aD aT aK l1 l2, Fr h₀ L h' m' → m' "script" = m "script" → m' "readers" = some (.ref aR) → m' "drawers" = some (.ref aD) → m' "things" = some (.ref aT) → m' "kinds" = some (.ref aK) → L ∉ [aR, aD, aT, aK, l1, l2] →
      Wd h₀ (ro0 aR aD aT aK l1 l2) ⟨aR, aD, aT, aK, [], [.none, .ref l1, .ref l2], [4, 4, 4]⟩ h' → wpAny (model prog w) A (execs rest (envOf "law" scLaw L fa cd)) Q E (St s h' t')) :
    wpAny (model prog w) A (execs (.Assign [.Name "readers" x1] (.List [] x2) x3 :: .Assign [.Name "drawers" x4] (.List [] x5) x6 :: .Assign [.Name "things" x7] (.List [.Constant .none z0 x8, .List [] x9, .List [] y1] y2) y3 :: .Assign [.Name "kinds" y4] (.List [.Constant (.int 4) z1 y5, .Constant (.int 4) z2 y6, .Constant (.int 4) z3 y7] y8) y9 :: rest) (envOf "law" scLaw L fa cd)) Q E (St s h t) := by
  refine asg (List_ (spliced_none (newL ?_ (by simp))))
  have gR := Heap.get?_push_size h (o := lstO (List.toArray []) 0) rfl
  have fR := size_none h
  have k2 := stays_push h (lstO (List.toArray []) 0)
  have F2 := F.keeps k2
  have nR : h.objs.size ≠ L := fr_ne F fR
  have zR := none_of F.keep fR
  generalize h.objs.size = aR at *
  generalize h.push _ = h₂ at *
  refine stE F2 fun h₃ F₃ x₃ => ?_
  replace gR := x₃ _ _ (by simpa using nR) gR
  refine asg (List_ (spliced_none (newL ?_ (by simp))))
  have gD := Heap.get?_push_size h₃ (o := lstO (List.toArray []) 0) rfl
  have fD := size_none h₃
  have k4 := stays_push h₃ (lstO (List.toArray []) 0)
  have F4 := F₃.keeps k4
  have nD : h₃.objs.size ≠ L := fr_ne F₃ fD
  have zD := none_of F₃.keep fD
  have dRD := ne_of gR fD
  generalize h₃.objs.size = aD at *
  generalize h₃.push _ = h₄ at *
  refine stE F4 fun h₅ F₅ x₅ => ?_
  replace gR := x₅ _ _ (by simpa using nR) (k4 _ _ gR)
  replace gD := x₅ _ _ (by simpa using nD) gD
  refine asg (List_ (spliced_more (wpAny_Constant_none (spliced_more (List_ (spliced_none (newL ?_ (by simp))))))))
  have g1 := Heap.get?_push_size h₅ (o := lstO (List.toArray []) 0) rfl
  have f1 := size_none h₅
  have k6 := stays_push h₅ (lstO (List.toArray []) 0)
  have F6 := F₅.keeps k6
  have n1 : h₅.objs.size ≠ L := fr_ne F₅ f1
  have zl1 := none_of F₅.keep f1
  have d1R := ne_of gR f1
  have d1D := ne_of gD f1
  generalize h₅.objs.size = l1 at *
  generalize h₅.push _ = h₆ at *
  replace gR := k6 _ _ gR
  replace gD := k6 _ _ gD
  refine spliced_more (List_ (spliced_none (newL ?_ (by simp))))
  have g2 := Heap.get?_push_size h₆ (o := lstO (List.toArray []) 0) rfl
  have f2 := size_none h₆
  have k7 := stays_push h₆ (lstO (List.toArray []) 0)
  have F7 := F6.keeps k7
  have n2 : h₆.objs.size ≠ L := fr_ne F6 f2
  have zl2 := none_of F6.keep f2
  have d2R := ne_of gR f2
  have d2D := ne_of gD f2
  have d21 := ne_of g1 f2
  generalize h₆.objs.size = l2 at *
  generalize h₆.push _ = h₇ at *
  replace gR := k7 _ _ gR
  replace gD := k7 _ _ gD
  replace g1 := k7 _ _ g1
  refine spliced_none (newL ?_ (by simp))
  have gT := Heap.get?_push_size h₇ (o := lstO (List.toArray [Value.none, .ref l1, .ref l2]) 0) rfl
  have fT := size_none h₇
  have k8 := stays_push h₇ (lstO (List.toArray [Value.none, .ref l1, .ref l2]) 0)
  have F8 := F7.keeps k8
  have nT : h₇.objs.size ≠ L := fr_ne F7 fT
  have zT := none_of F7.keep fT
  have dTR := ne_of gR fT
  have dTD := ne_of gD fT
  have dT1 := ne_of g1 fT
  have dT2 := ne_of g2 fT
  generalize h₇.objs.size = aT at *
  generalize h₇.push _ = h₈ at *
  refine stE F8 fun h₉ F₉ x₉ => ?_
  replace gR := x₉ _ _ (by simpa using nR) (k8 _ _ gR)
  replace gD := x₉ _ _ (by simpa using nD) (k8 _ _ gD)
  replace g1 := x₉ _ _ (by simpa using n1) (k8 _ _ g1)
  replace g2 := x₉ _ _ (by simpa using n2) (k8 _ _ g2)
  replace gT := x₉ _ _ (by simpa using nT) gT
  refine asg (List_ (spliced_more (kI (spliced_more (kI (spliced_more (kI (spliced_none (newLi (ns := [4, 4, 4]) (.cons _ _ (.cons _ _ (.cons _ _ .nil))) (by decide) fun ws hws => ?_)))))))))
  have gK := Heap.get?_push_size h₉ (o := lstO ws.toArray 0) rfl
  have fK := size_none h₉
  have k10 := stays_push h₉ (lstO ws.toArray 0)
  have F10 := F₉.keeps k10
  have nK : h₉.objs.size ≠ L := fr_ne F₉ fK
  have zK := none_of F₉.keep fK
  have dKR := ne_of gR fK
  have dKD := ne_of gD fK
  have dKT := ne_of gT fK
  have dK1 := ne_of g1 fK
  have dK2 := ne_of g2 fK
  generalize h₉.objs.size = aK at *
  generalize h₉.push _ = h₁₀ at *
  refine stE F10 fun h₁₁ F₁₁ x₁₁ => ?_
  replace gR := x₁₁ _ _ (by simpa using nR) (k10 _ _ gR)
  replace gD := x₁₁ _ _ (by simpa using nD) (k10 _ _ gD)
  replace g1 := x₁₁ _ _ (by simpa using n1) (k10 _ _ g1)
  replace g2 := x₁₁ _ _ (by simpa using n2) (k10 _ _ g2)
  replace gT := x₁₁ _ _ (by simpa using nT) (k10 _ _ gT)
  replace gK := x₁₁ _ _ (by simpa using nK) gK
  have e0 : ro0 aR aD aT aK l1 l2 aR = some (.L 0) := by simp [ro0]
  have e1 : ro0 aR aD aT aK l1 l2 aD = some (.L 1) := by simp [ro0, dRD]
  have e2 : ro0 aR aD aT aK l1 l2 aT = some (.L 2) := by simp [ro0, dTR, dTD]
  have e3 : ro0 aR aD aT aK l1 l2 aK = some (.L 3) := by simp [ro0, dKR, dKD, dKT]
  have e4 : ro0 aR aD aT aK l1 l2 l1 = some (.V 1) := by simp [ro0, d1R, d1D, Ne.symm dT1, Ne.symm dK1]
  have e5 : ro0 aR aD aT aK l1 l2 l2 = some (.V 2) := by simp [ro0, d2R, d2D, Ne.symm dT2, Ne.symm dK2, d21]
  refine k h₁₁ _ _ aR aD aT aK l1 l2 F₁₁ rfl rfl rfl rfl rfl ?_ ⟨?_, ⟨_, gR⟩, ⟨_, gD⟩, ⟨_, gT⟩, ⟨ws, _, gK, hws⟩, e0, e1, e2, e3, ?_, ?_, rfl, trivial⟩
  · simp only [List.mem_cons, List.not_mem_nil, or_false, not_or]
    exact ⟨Ne.symm nR, Ne.symm nD, Ne.symm nT, Ne.symm nK, Ne.symm n1, Ne.symm n2⟩
  · intro a r p
    unfold ro0 at p
    split at p
    · rename_i z; subst z; exact ⟨⟨_, gR⟩, zR⟩
    split at p
    · rename_i z; subst z; exact ⟨⟨_, gD⟩, zD⟩
    split at p
    · rename_i z; subst z; exact ⟨⟨_, gT⟩, zT⟩
    split at p
    · rename_i z; subst z; exact ⟨⟨_, gK⟩, zK⟩
    split at p
    · rename_i z; subst z; exact ⟨⟨_, g1⟩, zl1⟩
    split at p
    · rename_i z; subst z; exact ⟨⟨_, g2⟩, zl2⟩
    cases p
  · intro j x hj; cases hj
  · intro j v kk hv hk
    match j, hv, hk with
    | 0, hv, hk => cases hv; cases hk; exact .inl ⟨rfl, rfl⟩
    | 1, hv, hk => cases hv; cases hk; exact .inr ⟨l1, _, rfl, g1, e4⟩
    | 2, hv, hk => cases hv; cases hk; exact .inr ⟨l2, _, rfl, g2, e5⟩
    | n + 3, hv, hk => cases hv
theorem law_rest (B : Base0 w mg mb h₀) {L fa : Addr} {cd : Value} {m : Str → Option Value} (am : Am (A.deeper (envOf "law" scLaw L fa cd)) 320 1100) (hA : A.frames = some []) (F : Fr h₀ L h m) (W : Wd h₀ ρ σ h) (hrs : σ.rs = []) (hts : σ.ts.length = 3) (m0 : ∃ a vs ns, m "script" = some (.ref a) ∧ h₀.IsList a (List.toArray vs) ∧ IntsAre vs ns ∧ ns.length ≤ 63) (m1 : m "readers" = some (.ref σ.aR)) (m2 : m "drawers" = some (.ref σ.aD)) (m3 : m "things" = some (.ref σ.aT)) (m4 : m "kinds" = some (.ref σ.aK)) (pL : ρ L = none)
    {Q : Flow → Shared → Prop} {x1 x2 x3 x4 x5 x6 x7 x8 x9 y1 y2 y3 y4 y5 y6 y7 y8 y9 z1 z2 z3 z4 z5 z6 z7 z8 z9 v1 v2 v3 v4 v5 v6 v7 v8 u1 u2 u3 u4 u5 u6 : Pos} {n0 n1 q0 q1 q2 q3 q4 q5 q6 : Nat}
    (k : ∀ h' t' m', Fr h₀ L h' m' → Q (.ret (.bool true)) (St s h' t')) :
    wpAny (model prog w) (A.deeper (envOf "law" scLaw L fa cd)) (execs (.If (.UnaryOp .Not (.Call (.Name "_law_begin" x1) [.Name "readers" x2, .Name "drawers" x3, .Name "things" x4, .Name "kinds" x5] [] x6) x7) [.Return (some (.Constant (.bool false) n0 x8)) x9] [] y1 ::
      .For (.Name "x" y2) (.BinOp (.List [.Constant (.int 6) q0 y3, .Constant (.int 35) q1 y4, .Constant (.int 4) q2 y5, .Constant (.int 77) q3 y6, .Constant (.int 51) q4 y7, .Constant (.int 343) q5 y8] y9) .Add (.Subscript (.Name "script" z1) (.Slice none (some (.Constant (.int 16) q6 z2)) none z3) z4) z5)
        [.If (.UnaryOp .Not (.Call (.Name "_law_deed" z6) [.Name "x" z7, .Name "readers" z8, .Name "drawers" z9, .Name "things" v1, .Name "kinds" v2] [] v3) v4) [.Return (some (.Constant (.bool false) n1 v5)) v6] [] v7] [] v8 ::
      [.Return (some (.Call (.Name "_law_still" u1) [.Name "readers" u2, .Name "drawers" u3, .Name "things" u4] [] u5)) u6]) (envOf "law" scLaw L fa cd)) Q (fun _ _ => False) (St s h t) := by
  obtain ⟨a, vs, ns, m0, hLi, hI, hn⟩ := m0
  obtain ⟨nR, hR⟩ := W.lR
  obtain ⟨nD, hD⟩ := W.lD
  obtain ⟨nT, hT⟩ := W.lT
  obtain ⟨us, nK, hK, hus⟩ := W.lK
  have hul : us.length = 3 := by rw [IntsAre.length hus, List.length_map, W.len, hts]
  have zl : ∀ {a ro}, ρ a = some ro → h₀.get? a = none := fun p => (W.live _ _ p).2
  have ne : ∀ {a c : Addr} {i j : Nat}, ρ a = some (.L i) → ρ c = some (.L j) → i ≠ j → a ≠ c := fun p q n e => by
    rw [e, q] at p; cases p; exact n rfl
  have neL : ∀ {a ro}, ρ a = some ro → a ≠ L := fun p z => by rw [z, pL] at p; cases p
  refine wpAny_execs_cons (wpAny_If (isTrue_not (isTrue_plain ?_)))
  refine Call_ (name_K F B.X B.T (by k_is) (callWith_K ((Bs.of F).in B) (by k_is) (spliced_more (ld F m1 (spliced_more (ld F m2 (spliced_more (ld F m3 (spliced_more (ld F m4 (spliced_none ⟨(Bs.of F).in B, ?_⟩)))))))))))
  refine begin_spec B (Bs.of F) am.mono hR hD hT hK (by rw [hrs]; simp) (by rw [hrs]; simp) (by omega) (by omega) (zl W.pR) (zl W.pD) (zl W.pT) (zl W.pK) ?_ W.ob ?_
  · simp only [List.nodup_cons, List.mem_cons, List.not_mem_nil, or_false, not_or, List.nodup_nil, and_true, not_false_eq_true]
    exact ⟨⟨ne W.pR W.pD (by decide), ne W.pR W.pT (by decide), ne W.pR W.pK (by decide)⟩, ⟨ne W.pD W.pT (by decide), ne W.pD W.pK (by decide)⟩, ne W.pT W.pK (by decide)⟩
  intro h₁ t₁ r d q ad dd us' nR' nD' nT' nK' Bg xx hus' h1 h2 h3 h4
  obtain ⟨W₁, nw⟩ := W.begun (nK := 0) (Bs.of F).keep Bg xx hus hus' h1 h2 h3 h4
  have F₁ : Fr h₀ L h₁ m := fr_ex F xx (by
    simp only [List.mem_cons, List.not_mem_nil, or_false, not_or]
    exact ⟨Ne.symm (neL W.pR), Ne.symm (neL W.pD), Ne.symm (neL W.pT), Ne.symm (neL W.pK)⟩) (by
    simp only [List.mem_cons, List.not_mem_nil, or_false, forall_eq_or_imp, forall_eq]
    exact ⟨zl W.pR, zl W.pD, zl W.pT, zl W.pK⟩)
  refine wpAny_truthy_bool ?_
  rw [if_neg (by decide)]
  refine wpAny_execs_nil ?_
  have pL₁ : roB r d q ad dd σ.rs.length σ.ts.length ρ L = none := by
    cases z : roB r d q ad dd σ.rs.length σ.ts.length ρ L with
    | none => rfl
    | some ro =>
      rcases nw L (by rw [z]; nofun) with y | y
      · exact absurd pL y
      · obtain ⟨o, ho⟩ := fr_live F
        rw [y] at ho; cases ho
  have lr1 : (σ.rs ++ [(⟨r, d, q, fun i => σ.ts.length + i⟩ : Rd)]).length = 1 := by rw [hrs]; rfl
  have lt1 : (σ.ts ++ [Value.ref (ad 0), Value.ref (ad 1), Value.ref (ad 2), Value.ref (ad 3)]).length = 7 := by rw [List.length_append, hts]; rfl
  revert W₁ pL₁
  generalize hσ : ({ σ with rs := σ.rs ++ [⟨r, d, q, fun i => σ.ts.length + i⟩], ts := σ.ts ++ [Value.ref (ad 0), Value.ref (ad 1), Value.ref (ad 2), Value.ref (ad 3)], ks := σ.ks ++ [0, 1, 2, 3] } : Sg) = σ₁
  generalize roB r d q ad dd σ.rs.length σ.ts.length ρ = ρ₁
  intro W₁ pL₁
  have eR : σ₁.aR = σ.aR := by rw [← hσ]
  have eD : σ₁.aD = σ.aD := by rw [← hσ]
  have eT : σ₁.aT = σ.aT := by rw [← hσ]
  have eK : σ₁.aK = σ.aK := by rw [← hσ]
  have er : σ₁.rs.length = 1 := by rw [← hσ]; exact lr1
  have et : σ₁.ts.length = 7 := by rw [← hσ]; exact lt1
  have am' := am
  have hfr' := Around.frames_deeper (env := envOf "law" scLaw L fa cd) hA
  generalize A.deeper _ = A' at *
  clear W nw hσ hR hD hT hK F h1 h2 h3 h4 Bg
  refine wpAny_execs_cons (for_list2 am'.handled (P := fun r xs => h₁.get? r = none ∧ ∃ ws, xs = List.toArray ws ∧ IntsAre ws ([6, 35, 4, 77, 51, 343] ++ ns.take 16))
    (fun I r i h' => ∃ ρ' σ' m', Wd h₀ ρ' σ' h' ∧ Fr h₀ L h' m' ∧ m' "readers" = some (.ref σ'.aR) ∧ m' "drawers" = some (.ref σ'.aD) ∧ m' "things" = some (.ref σ'.aT) ∧ m' "kinds" = some (.ref σ'.aK) ∧ ρ' L = none ∧ ρ' I = none ∧ ρ' r = none ∧ I ≠ L ∧ r ≠ L ∧ h₀.get? I = none ∧ σ'.ts.length ≤ 7 + 4 * i ∧ i ≤ 22 ∧ σ'.rs.length ≤ 1 + i ∧ 1 ≤ σ'.rs.length ∧ (i = 0 ∨ 5 ∈ σ'.ks)) ?_ ?_ ?_ ?_)
  · intro Qe hQe
    exact ev_deeds (fun Q' h' t' kk q => ld (F₁.keeps kk) m0 q) (let ⟨o, ho, q⟩ := hLi; ⟨o, F₁.keep _ _ ho, q⟩) hI hn fun r h' t' ws kk fr hl hi => hQe r h' t' _ kk hl ⟨fr, ws, rfl, hi⟩
  · rintro h₂ I r k₂ hI0 hIr ⟨xs, fr, ws, rfl, hws⟩
    exact ⟨ρ₁, σ₁, m, W₁.keep fun _ _ _ _ q => k₂ _ _ q, F₁.keeps k₂, by rw [eR]; exact m1, by rw [eD]; exact m2, by rw [eT]; exact m3, by rw [eK]; exact m4, pL₁, W₁.no hI0, W₁.no fr, fr_ne F₁ hI0, fr_ne F₁ fr, none_of F₁.keep hI0, by omega, by omega, by omega, by omega, .inl rfl⟩
  · rintro I r i v h' h₂ t₂ xs ⟨fr, ws, rfl, hws⟩ hv ⟨ρ', σ', m', W', F', c1, c2, c3, c4, pL', pI, pr, nIL, nrL, zI, lt', li, lr', lo', h5⟩ e2 ⟨oI, hoI⟩ ⟨or, hor⟩
    have hv' : ws[i]? = some v := by simpa using hv
    obtain ⟨n, u, rfl, hni⟩ := ints_val hws hv'
    have hil : i < 22 := by
      have l1 := IntsAre.length hws
      have l2 : i < ws.length := (List.getElem?_eq_some_iff.mp hv').1
      rw [l1, List.length_append, List.length_take] at l2
      simp only [List.length_cons, List.length_nil] at l2
      omega
    have W₂ : Wd h₀ ρ' σ' h₂ := W'.keep fun a ro o p q => e2 a o (by simp only [List.mem_singleton]; rintro rfl; rw [pI] at p; cases p) q
    have F₂ : Fr h₀ L h₂ m' := fr_ex F' e2 (by simpa using Ne.symm nIL) (by simpa using zI)
    refine stE F₂ fun h₃ F₃ x₃ => ?_
    have W₃ : Wd h₀ ρ' σ' h₃ := W₂.keep fun a ro o p q => x₃ a o (by simp only [List.mem_singleton]; rintro rfl; rw [pL'] at p; cases p) q
    have hI3 := x₃ _ _ (by simpa using nIL) hoI
    have hr3 := x₃ _ _ (by simpa using nrL) hor
    refine wpAny_execs_cons (wpAny_If (isTrue_not (isTrue_plain ?_)))
    refine Call_ (name_K F₃ B.X B.T (by k_is) (callWith_K ((Bs.of F₃).in B) (by k_is) (spliced_more (ld F₃ (if_pos rfl) (spliced_more (ld F₃ c1 (spliced_more (ld F₃ c2 (spliced_more (ld F₃ c3 (spliced_more (ld F₃ c4 (spliced_none ⟨(Bs.of F₃).in B, ?_⟩)))))))))))))
    have hF₃ : h₃.FunFrames {} [envOf "law" scLaw L fa cd] := Heap.FunFrames.cons nofun rfl F₃.ns rfl trivial
    have one : ∀ l ∈ frs [envOf "law" scLaw L fa cd], l = L := fun l hl => List.mem_singleton.mp hl
    refine deed_spec B (Bs.of F₃) am'.mono hfr' hF₃ (fun l hl => by rw [one l hl]; exact fr_low F₃) (fun l hl => by rw [one l hl]; exact pL') W₃ (by omega) (by omega) lo' ?_ fun h₄ t₄ ρ₄ σ₄ o five => ?_
    · rcases h5 with rfl | h5
      · cases hni; exact .inl (by decide)
      · exact .inr h5
    have c : Chg [L] (fun b => ρ' b ≠ none) h₃ h₄ := o.c
    have F₄ := fr_chg (fs := []) F₃ c (fun b z => by
      cases q : ρ' b with
      | none => exact absurd q z
      | some ro => exact (W₃.live b ro q).2) (by simp)
    have keepN : ∀ {b ob}, ρ' b = none → h₃.get? b = some ob → ρ₄ b = none := fun {b ob} p q => by
      cases z : ρ₄ b with
      | none => rfl
      | some ro =>
        rcases o.nw b (by rw [z]; nofun) with y | y
        · exact absurd p y
        · rw [q] at y; cases y
    obtain ⟨oL, hoL⟩ := fr_live F₃
    have hI4 := c.keep _ _ (by simpa using nIL) (by rw [pI]; simp) hI3
    have hr4 := c.keep _ _ (by simpa using nrL) (by rw [pr]; simp) hr3
    have ot := o.lt
    have olr := o.lr
    have olo := o.lo
    refine wpAny_truthy_bool ?_
    rw [if_neg (by decide)]
    refine wpAny_execs_nil (wpAny_execs_nil ⟨_, _, rfl, ⟨ρ₄, σ₄, _, o.W, F₄, by rw [o.aR]; exact c1, by rw [o.aD]; exact c2, by rw [o.aT]; exact c3, by rw [o.aK]; exact c4, keepN pL' hoL, keepN pI hI3, keepN pr hr3, nIL, nrL, zI, by omega, by omega, by omega, by omega, .inr five⟩, ?_, ?_⟩)
    · rw [hoI]; exact hI4
    · rw [hor]; exact hr4
  · rintro I r i h' h₂ t₂ ⟨ρ', σ', m', W', F', c1, c2, c3, c4, pL', pI, pr, nIL, nrL, zI, lt', li, lr', lo', h5⟩ e2
    have W₂ : Wd h₀ ρ' σ' h₂ := W'.keep fun a ro o p q => e2 a o (by simp only [List.mem_singleton]; rintro rfl; rw [pI] at p; cases p) q
    have F₂ : Fr h₀ L h₂ m' := fr_ex F' e2 (by simpa using Ne.symm nIL) (by simpa using zI)
    obtain ⟨nR, hR⟩ := W₂.lR
    obtain ⟨nD, hD⟩ := W₂.lD
    obtain ⟨nT, hT⟩ := W₂.lT
    refine wpAny_execs_cons (wpAny_Return_some ?_)
    refine Call_ (name_K F₂ B.X B.T (by k_is) (callWith_K ((Bs.of F₂).in B) (by k_is) (spliced_more (ld F₂ c1 (spliced_more (ld F₂ c2 (spliced_more (ld F₂ c3 (spliced_none ⟨(Bs.of F₂).in B, ?_⟩)))))))))
    exact still_spec B (Bs.of F₂) am'.mono hR hD hT (by omega) (by omega) (fun x hx => by
      obtain ⟨j, hj, rfl⟩ := List.getElem_of_mem hx
      exact (W₂.rd j _ (List.getElem?_eq_getElem hj)).1) W₂.ob W₂.nd fun h₃ t₃ kk => k _ _ _ (F₂.keeps kk)
end
end Mine
end
section
open PySem PySem.W PySem.W.X PyProof.Rows PySem.Calls
namespace Mine
theorem ro0_none {aR aD aT aK l1 l2 L : Addr} (nL : L ∉ [aR, aD, aT, aK, l1, l2]) : ro0 aR aD aT aK l1 l2 L = none := by
  simp only [List.mem_cons, List.not_mem_nil, or_false, not_or] at nL
  obtain ⟨n1, n2, n3, n4, n5, n6⟩ := nL
  unfold ro0
  rw [if_neg (Ne.symm n1), if_neg (Ne.symm n2), if_neg (Ne.symm n3), if_neg (Ne.symm n4), if_neg (Ne.symm n5), if_neg (Ne.symm n6)]
local macro_rules | `(tactic| k_qdec) => `(tactic| decide +kernel)
end Mine
end
open PySem PySem.W PySem.W.X PyProof.Rows PySem.Calls Mine
local macro_rules | `(tactic| k_qdec) => `(tactic| decide +kernel)
set_option maxHeartbeats 8000000 in
theorem PySem.Challenge.cw_kl0193_01_holds : PySem.Challenge.rw_kl0193_01.Holds := by
  refine Mine.hd ?_
  k_go0
  try k_fold
  rename Below callerA _ [] _ => K0
  rename Fr _ _ _ _ => F
  rename IntsAre _ _ => hI
  rename Heap.IsList _ _ _ => hL
  rename Top _ _ _ _ _ _ => T
  rename Frag.In _ _ => KX
  have B := Base0.mk KX (topRead_of T)
  have hst := K0.stack
  have am : ∀ env, Am (callerA.deeper env) 320 1100 := fun env => ⟨rfl, by show callerA.depth + 1 ≤ 320; decide, by show callerA.units + 3 ≤ 1100; decide⟩
  refine wpAny_mono (E := fun _ _ => False) ?_ (fun _ _ x => x) (fun _ _ (x : False) => x.elim)
  refine law_start (E := fun _ _ => False) F fun h' t' m' aR aD aT aK l1 l2 F' e0 e1 e2 e3 e4 nL W => ?_
  refine law_rest B (am _) hst F' W rfl rfl ⟨_, _, _, e0.trans rfl, hL, hI, by omega⟩ e1 e2 e3 e4 (ro0_none nL) fun h'' t'' m'' F'' => ?_
  clear F F' W hI hL
  wrow_close
