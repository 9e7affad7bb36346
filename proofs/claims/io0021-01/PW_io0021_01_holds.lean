import PyProof.Rows.All
import Wide.All
import OpenK.AllK
import Wide.FinOn
import PySem.Builtin.Math.Norm
import Flt.RightSqrt
import PySem.Challenge.RW_io0021_01
set_option Elab.async false
section
open PySem PySem.W PyProof.Rows
set_option Elab.async false
set_option maxRecDepth 100000
set_option maxHeartbeats 8000000
namespace Mine
def vw : Program := { PySem.Challenge.pw_io0021_01 with main := { PySem.Challenge.pw_io0021_01.main with body := (PySem.Challenge.pw_io0021_01.main.body.eraseIdx 5).eraseIdx 2 } }
theorem split2 {p q : Program} {loose : List Str} {Xt : Shared → Bool} {α : Type} {Yf : Shared → α} {Ya : World → α} {N : Nat} {g0 : Bool} (row : String)
    (hf : ∀ w : World, (fencedOpening treeTable p w N).bind (fun s₀ => (topFrom treeTable p (w.withFollow row false) N s₀).map (fun s => (openSeen q loose (importedModules p.main.body) Xt g0 s, Yf s))) = some (openGood q loose, Ya (w.withFollow row false)))
    (ht : ∀ w : World, (fencedOpening treeTable p w N).bind (fun s₀ => (topFrom treeTable p (w.withFollow row true) N s₀).map (fun s => (openSeen q loose (importedModules p.main.body) Xt g0 s, Yf s))) = some (openGood q loose, Ya (w.withFollow row true))) :
    LeftO p q loose Xt Yf Ya N g0 := LeftO.of_split row fun w => by
  have a := hf w
  have b := ht w
  generalize fencedOpening treeTable p w N = o at a b ⊢
  cases o with
  | none => cases a
  | some s0 => 
    rw [Option.bind_some] at a b
    rw [Option.map_some, a, b]
theorem hoH {r : OpenRow} {q : Program} {loose : List Str} {Xt : Shared → Bool} {XP : (Str → Option Value) → Heap → Prop} (H : Hook) {d : DefRec} {kwd : List (Str × Expr)} {N : Nat}
    (left : LeftO r.prog q loose Xt H.obs H.val N)
    (hX : ∀ s, Xt s = true → XP (s.heap.nsMap mainGlobals) s.heap) (hXk : ∀ mg h h', XP mg h → (∀ b o, h.get? b = some o → h'.get? b = some o) → XP mg h')
    (hdef : defOf q r.name = some (d, kwd)) (hp : r.prog.theDef r.name = some (d.params, d.body, d.scope)) (hk : kwWritten? d.params.kwonlyargs d.params.kw_defaults = some kwd) (hRf : ∀ s, Xt s = true → RecFacts r.records s.heap) (hwr : (!r.writes || r.records.isEmpty) = true)
    (k1 : r.wellSaid = true) (ok : (chainsOk q && opensWell r.prog && (frees r.toRowW && r.within.isEmpty)) = true) (hb : r.prog.bare) (hw : r.toRowW.promised)
    (call : WalkO q loose XP H.says r.toRowW d kwd fun f vs => PySem.call f vs) : r.Holds :=
  holds_open (Yf := H.obs) (Ya := H.val) (YP := H.says) left H.of H.keeps hX hXk hdef hp hk hRf hwr k1 ok hb hw call
local macro_rules | `(tactic| o_head $H) => `(tactic| (exact ‹PySem.Challenge.rw_io0021_01.row.Holds›; exact $H))
noncomputable def pk : PySem.Challenge.rw_io0021_01.row.Holds → Hook := fun h => by
  refine (fun (_ : PySem.Challenge.rw_io0021_01.row.Holds) => ?H) ?g
  rotate_left
  k_head
def asK : List Addr := [2, 3, 43, 45, 46, 48, 49, 50, 57, 58, 59, 60, 70, 71, 72, 74, 75, 77, 78, 79, 81, 82, 84, 85, 86, 87, 88, 89, 90, 92, 93, 95, 96, 97, 99, 100, 102, 103, 104, 106, 107, 109, 110, 111, 113, 114, 116, 117, 118, 119, 121, 122, 124, 125, 126, 128, 129, 131, 132, 133, 135, 136, 138, 139, 140, 142, 143, 145, 146, 147, 148, 150, 151, 153, 154, 155, 156, 158, 159, 161, 162, 163, 164, 166, 167, 169, 170, 171, 172, 174, 175, 177, 178, 179, 180, 182, 183, 185, 186, 187, 189, 190, 192, 193, 194, 196, 197, 199, 200, 201, 203, 204, 206, 207, 208, 210, 211, 213, 214, 215, 217, 218, 220, 221, 222, 224, 225, 227, 228, 229, 231, 232, 234, 235, 236, 238, 239, 241, 242, 243, 245, 246, 248, 249, 250, 252, 253, 255, 256, 257, 259, 260, 262, 263, 264, 269, 270, 271, 272, 275, 277, 278, 280, 281, 282, 284, 285, 287, 288, 289, 291, 292, 294, 295]
theorem asK_is : ∀ P, asK = (Mine.pk.heap_1 P).map (·.1) := fun _ => by kernel_rfl
@[reducible] noncomputable def hk : Hook := kHook Mine.pk.heap_1 asK asK_is
@[reducible] def xt (s : Shared) : Bool := xlAt vw [] s && recOk (RowW.records (PySem.Challenge.rw_io0021_01.row.toRowW)) s

/- a list of objects laid out as a tree -/
def fill (T : BT) (n : Nat) : List Obj → Option BT
  | [] => some T
  | o :: l => match ((T.ins n o).get n).isSome with
    | true => fill (T.ins n o) (n + 1) l
    | false => none
theorem fill_abs {life : Life} : ∀ {l : List Obj} {T T' : BT} {n : Nat}, fill T n l = some T' → absHeap T' (n + l.length) life = ⟨(absHeap T n life).objs ++ l.toArray, life⟩
  | [], T, T', n, h => by
    cases h
    show absHeap T n life = _
    simp [absHeap]
  | o :: l, T, T', n, h => by
    unfold fill at h
    cases g : ((T.ins n o).get n).isSome with
    | false => rw [g] at h; cases h
    | true =>
      rw [g] at h
      have := fill_abs (life := life) h
      rw [List.length_cons, show n + (l.length + 1) = n + 1 + l.length by omega, this, absHeap_ins g]
      simp [Heap.push]
def asTree (s : Shared) : Option SharedT := (fill .nil 0 s.heap.objs.toList).map fun T => ⟨T, s.heap.objs.toList.length, s.heap.life, s.gens, s.drawn, s.toks, s.os⟩
theorem asTree_abs {s : Shared} {T : SharedT} (h : asTree s = some T) : T.abs = s := by
  unfold asTree at h
  obtain ⟨b, hb, rfl⟩ := Option.map_eq_some_iff.mp h
  have := fill_abs (life := s.heap.life) hb
  rw [Nat.zero_add] at this
  show (⟨absHeap b s.heap.objs.toList.length s.heap.life, s.gens, s.drawn, s.toks, s.os⟩ : Shared) = s
  rw [this]
  obtain ⟨⟨objs, life⟩, gens, drawn, toks, os⟩ := s
  simp [absHeap, BT.list]
def goT (ok : Thread → Bool) (stp : SharedT → Thread → Option (SharedT × Thread)) : Nat → SharedT → Thread → Option SharedT
  | 0, _, _ => none
  | n + 1, s, t => match through t with
    | true => some s
    | false => match ok t with
      | false => none
      | true => match stp s t with
        | some (s', t') => goT ok stp n s' t'
        | none => none
theorem goT_top {tb : String → Option Builtin} {p : Program} {w : World} {n₀ : Nat} {ann : Option Value} : ∀ {n : Nat} {s s' : SharedT} {t : Thread}, goT (stepOk n₀ ann) (stepT (denote tb) p w) n s t = some s' → topRun tb p w n₀ ann n s.abs t = some s'.abs
  | 0, _, _, _, h => by cases h
  | n + 1, s, s', t, h => by
    unfold goT at h
    unfold topRun
    cases ht : through t with
    | true => rw [ht] at h; cases h; rfl
    | false =>
      rw [ht] at h
      cases hk : stepOk n₀ ann t with
      | false => rw [hk] at h; cases h
      | true =>
        rw [hk] at h
        cases hs : stepT (denote tb) p w s t with
        | none => rw [hs] at h; cases h
        | some r => obtain ⟨s₂, t₂⟩ := r; rw [hs] at h; dsimp only; rw [stepT_spec hs]; exact goT_top h
/- the imports' run over a tree -/
def impT (ends : Thread → Option (List Value)) (stp : SharedT → Thread → Option (SharedT × Thread)) : Nat → SharedT → Thread → Option SharedT
  | 0, _, _ => none
  | n + 1, s, t => match ends t with
    | some [] => some s
    | some (_ :: _) => none
    | none => match stp s t with
      | some (s', t') => impT ends stp n s' t'
      | none => none
theorem impT_ends {tb : String → Option Builtin} {p : Program} {w : World} : ∀ {n : Nat} {s s' : SharedT} {t : Thread}, impT Thread.atExitBegin (stepT (denote tb) p w) n s t = some s' → importEnds tb p w n s.abs t = some s'.abs
  | 0, _, _, _, h => by cases h
  | n + 1, s, s', t, h => by
    unfold impT at h
    unfold importEnds
    cases ht : t.atExitBegin with
    | some l => rw [ht] at h; cases l <;> cases h; rfl
    | none =>
      rw [ht] at h
      cases hs : stepT (denote tb) p w s t with
      | none => rw [hs] at h; cases h
      | some r => obtain ⟨s₂, t₂⟩ := r; rw [hs] at h; dsimp only; rw [stepT_spec hs]; exact impT_ends h
/- an object read off the tree -/
def readT (T : SharedT) (a : Addr) : Option (Option Obj) := match Nat.blt a T.n with
  | true => (T.tree.get a).map alive
  | false => some none
theorem readT_get {T : SharedT} {a : Addr} {r : Option Obj} (h : readT T a = some r) : T.abs.heap.get? a = r := by
  unfold readT at h
  cases e : Nat.blt a T.n with
  | false =>
    rw [e] at h
    cases h
    exact abs_get_none fun q => by rw [show Nat.blt a T.n = true from Nat.ble_eq_true_of_le q] at e; cases e
  | true =>
    rw [e] at h
    obtain ⟨o, ho, rfl⟩ := Option.map_eq_some_iff.mp h
    exact abs_get (Nat.le_of_ble_eq_true e) ho
theorem reads_get {T : SharedT} : ∀ {l : List Addr} {K : Frag}, l.map (readT T) = K.map (fun p => some (some p.2)) → l.map T.abs.heap.get? = K.map fun p => some p.2
  | [], [], _ => rfl
  | [], _ :: _, h => by cases h
  | _ :: _, [], h => by cases h
  | a :: l, p :: K, h => by
    rw [List.map_cons, List.map_cons] at h ⊢
    injection h with h1 h2
    rw [readT_get h1, reads_get h2]
/- the whole top over a tree, and the looks at its end -/
def wholeT {β : Type} (n : SharedT → Option SharedT) (fence : Shared → Option Shared) (ok : Nat → Option Value → Thread → Bool) (stp : SharedT → Thread → Option (SharedT × Thread)) (ends : Shared → Shared → Bool) (st : Thread) (N : Nat) (g : SharedT → β) (i : Shared) : Option β :=
  match asTree i with
  | some I => match n I with
    | some Z => match fence Z.abs with
      | some s₀ => match s₀.heap.isNs mainGlobals && s₀.gens.size == 0 with
        | true => match asTree s₀ with
          | some T => match goT (ok s₀.heap.objs.size (s₀.heap.nsMap mainGlobals "__annotations__")) stp N T st with
            | some T' => match ends s₀ T'.abs with
              | true => some (g T')
              | false => none
            | none => none
          | none => none
        | false => none
      | none => none
    | none => none
  | none => none
abbrev endsWell (p : Program) (s₀ s₁ : Shared) : Bool := staticsOk (importedModules p.main.body) s₀.heap s₁.heap && namesBound p s₁.heap && gensDone s₁ && laidKept s₀.heap s₁.heap
theorem wholeT_from {β : Type} {tb : String → Option Builtin} {p : Program} {w w' : World} {M N : Nat} {g : SharedT → β} {b : β}
    (h : wholeT (fun I => impT Thread.atExitBegin (stepT (denote tb) (opening p) w) M I (start (opening p)).2) (fenceModules? p) stepOk (stepT (denote tb) p w') (endsWell p) (topStub p) N g (start (opening p)).1 = some b) :
    ∃ s₀ T, fencedOpening tb p w M = some s₀ ∧ topFrom tb p w' N s₀ = some T.abs ∧ g T = b := by
  unfold wholeT at h
  split at h
  · rename_i I hI
    split at h
    · rename_i Z hZ
      split at h
      · rename_i s₀ h0
        split at h
        · rename_i e
          split at h
          · rename_i T hT
            split at h
            · rename_i T' hT'
              split at h
              · rename_i k
                cases h
                refine ⟨s₀, T', ?_, ?_, rfl⟩
                · have z := impT_ends hZ
                  rw [asTree_abs hI] at z
                  unfold fencedOpening
                  rw [z, Option.bind_some, h0]
                · have r := goT_top hT'
                  rw [asTree_abs hT] at r
                  unfold topFrom
                  rw [e]
                  dsimp only
                  rw [r, Option.bind_some]
                  unfold endsWell at k; rw [k]
              · cases h
            · cases h
          · cases h
        · cases h
      · cases h
    · cases h
  · cases h
theorem tops {α : Type} {tb : String → Option Builtin} {p : Program} {w w' : World} {M N : Nat} {l : List Addr} {K : Frag} {f : Shared → α} {a : α}
    (h : wholeT (fun I => impT Thread.atExitBegin (stepT (denote tb) (opening p) w) M I (start (opening p)).2) (fenceModules? p) stepOk (stepT (denote tb) p w') (endsWell p) (topStub p) N (fun T => (f T.abs, l.map (readT T))) (start (opening p)).1 = some (a, K.map fun p => some (some p.2))) :
    (fencedOpening tb p w M).bind (fun s₀ => (topFrom tb p w' N s₀).map fun s => (f s, l.map s.heap.get?)) = some (a, K.map fun p => some p.2) := by
  obtain ⟨s₀, T, h0, h1, h2⟩ := wholeT_from h
  obtain ⟨e1, e2⟩ := Prod.mk.inj h2
  rw [h0, Option.bind_some, h1, Option.map_some, e1, reads_get e2]
theorem hlf (w : World) : (fencedOpening treeTable PySem.Challenge.rw_io0021_01.row.prog w 4012).bind (fun s₀ => (topFrom treeTable PySem.Challenge.rw_io0021_01.row.prog (w.withFollow "special-get-raises" false) 4012 s₀).map (fun s => (openSeen vw [Str.ofString "NormalDist"] (importedModules PySem.Challenge.rw_io0021_01.row.prog.main.body) xt true s, hk.obs s))) = some (openGood vw [Str.ofString "NormalDist"], hk.val (w.withFollow "special-get-raises" false)) := by
  refine tops (l := asK) (K := Mine.pk.heap_1 (w.withFollow "special-get-raises" false).params) (f := fun s => openSeen vw [Str.ofString "NormalDist"] (importedModules PySem.Challenge.rw_io0021_01.row.prog.main.body) xt true s) ?_
  rw [PySem.W.Fast.te14289696077712309145, PySem.W.Fast.te1435165496053646825, PySem.W.Fast.te14364793385576792824, PySem.W.Fast.te11892475500146522536, PySem.W.Fast.te10156331382660048174, PySem.W.Fast.te6613529449190102663, PySem.W.Fast.te4187177175401517315, PySem.W.Fast.te3805553451399329143]
  kernel_rfl
theorem hlt (w : World) : (fencedOpening treeTable PySem.Challenge.rw_io0021_01.row.prog w 4012).bind (fun s₀ => (topFrom treeTable PySem.Challenge.rw_io0021_01.row.prog (w.withFollow "special-get-raises" true) 4012 s₀).map (fun s => (openSeen vw [Str.ofString "NormalDist"] (importedModules PySem.Challenge.rw_io0021_01.row.prog.main.body) xt true s, hk.obs s))) = some (openGood vw [Str.ofString "NormalDist"], hk.val (w.withFollow "special-get-raises" true)) := by
  refine tops (l := asK) (K := Mine.pk.heap_1 (w.withFollow "special-get-raises" true).params) (f := fun s => openSeen vw [Str.ofString "NormalDist"] (importedModules PySem.Challenge.rw_io0021_01.row.prog.main.body) xt true s) ?_
  rw [PySem.W.Fast.te14289696077712309145, PySem.W.Fast.te1435165496053646825, PySem.W.Fast.te14364793385576792824, PySem.W.Fast.te11892475500146522536, PySem.W.Fast.te10156331382660048174, PySem.W.Fast.te6613529449190102663, PySem.W.Fast.te4187177175401517315, PySem.W.Fast.te3805553451399329143]
  kernel_rfl
local macro_rules | `(tactic| o_head $_) => `(tactic| (
  refine hoH (H := kHook Mine.pk.heap_1 asK asK_is) (q := vw) (loose := [Str.ofString "NormalDist"]) (Xt := xt) (XP := XL vw []) (N := 4012) (split2 "special-get-raises" hlf hlt) (fun s e => xl_of s (Bool.and_eq_true_iff.mp e).1) XL.keeps (by rfl) (by rfl) (by rfl) (fun s e => recFacts_of (Bool.and_eq_true_iff.mp e).2) (by rfl) (by first | assumption | decide +kernel) (by decide +kernel) ⟨rfl, rfl, rfl, rfl, rfl, by decide +kernel⟩ ?hw ?hc))
open_top hd for PySem.Challenge.rw_io0021_01
end Mine
end
section
open PySem
namespace Mine
open PySem.Float64

/-- every q * 2 ^ k with q below 2 ^ 53 is a float's worth -/
theorem rep : ∀ (k q : Nat), q < 2 ^ 53 → k ≤ 2045 → ∃ t, t < infMag ∧ V t = q * 2 ^ k
  | 0, q, hq, _ => ⟨0 * 2 ^ 52 + q, by unfold infMag; omega, V_at (by omega) (.inr rfl)⟩
  | k + 1, q, hq, hk => by
    by_cases h : 2 ^ 52 ≤ q
    · exact ⟨(k + 1) * 2 ^ 52 + q, by unfold infMag; omega, V_at (by omega) (.inl h)⟩
    · obtain ⟨t, ht, hv⟩ := rep k (2 * q) (by omega) (by omega)
      exact ⟨t, ht, by rw [hv, Nat.pow_succ, Nat.mul_comm 2 q, Nat.mul_assoc, Nat.mul_comm 2]⟩

theorem not_over {D W q k : Nat} (hD : 0 < D) (hq : q < 2 ^ 53) (hk : k ≤ 2045) (hW : W ≤ D * (q * 2 ^ k)) : ¬ D * ((2 ^ 54 - 1) * 2 ^ 2045) ≤ 2 * W := by
  intro h
  have h1 : D * (q * 2 ^ k) ≤ D * ((2 ^ 53 - 1) * 2 ^ 2045) := Nat.mul_le_mul_left _ (Nat.mul_le_mul (by omega) (Nat.pow_le_pow_right (by decide) hk))
  have hp : 0 < D * 2 ^ 2045 := Nat.mul_pos hD (Nat.two_pow_pos _)
  have e1 : D * ((2 ^ 53 - 1) * 2 ^ 2045) = (2 ^ 53 - 1) * (D * 2 ^ 2045) := by generalize (2 : Nat) ^ 2045 = P; ac_rfl
  have e2 : D * ((2 ^ 54 - 1) * 2 ^ 2045) = (2 ^ 54 - 1) * (D * 2 ^ 2045) := by generalize (2 : Nat) ^ 2045 = P; ac_rfl
  rw [e1] at h1
  rw [e2] at h
  generalize D * 2 ^ 2045 = T at *
  omega

theorem near_le {D W t t0 : Nat} (hD : 0 < D) (hn : dist W (D * V t) ≤ dist W (D * V t0)) (h : W ≤ D * V t0) : V t ≤ V t0 := by
  rcases Nat.lt_or_ge (V t0) (V t) with h1 | h1
  · exfalso
    have h2 : D * V t0 < D * V t := Nat.mul_lt_mul_of_pos_left h1 hD
    unfold dist at hn
    omega
  · exact h1
theorem near_ge {D W t t0 : Nat} (hD : 0 < D) (hn : dist W (D * V t) ≤ dist W (D * V t0)) (h : D * V t0 ≤ W) : V t0 ≤ V t := by
  rcases Nat.lt_or_ge (V t) (V t0) with h1 | h1
  · exfalso
    have h2 : D * V t < D * V t0 := Nat.mul_lt_mul_of_pos_left h1 hD
    unfold dist at hn
    omega
  · exact h1

/-- finite, between lo * 2 ^ j and hi * 2 ^ j units of 2 ^ -1074 -/
def Bd (x : UInt64) (lo hi : Int) (j : Nat) : Prop := (∃ a m e, decode x = .fin a m e) ∧ lo * 2 ^ j ≤ val x ∧ val x ≤ hi * 2 ^ j
abbrev Is (x : UInt64) (n : Int) (j : Nat) : Prop := Bd x n n j
theorem Is.val {x : UInt64} {n : Int} {j : Nat} (h : Is x n j) : Float64.val x = n * 2 ^ j := Int.le_antisymm h.2.2 h.2.1
theorem Is.mk {x : UInt64} {n : Int} {j : Nat} (h : ∃ a m e, decode x = .fin a m e) (hv : Float64.val x = n * 2 ^ j) : Is x n j := ⟨h, Int.le_of_eq hv.symm, Int.le_of_eq hv⟩
theorem pw (j : Nat) : (0 : Int) < 2 ^ j := Int.pow_pos (by decide)

theorem core {r : UInt64} {neg : Bool} {W D k : Nat} {v lo hi : Int} (R : Right r neg W D) (hD : 0 < D) (hv : v = sgn neg W) (hlo : lo.natAbs < 2 ^ 53) (hhi : hi.natAbs < 2 ^ 53) (hk : k ≤ 2045)
    (h1 : lo * 2 ^ k * D ≤ v) (h2 : v ≤ hi * 2 ^ k * D) : Bd r lo hi k := by
  obtain ⟨t, rfl, hle, hov, hn⟩ := R
  have hP : (0 : Int) < 2 ^ k * (D : Int) := Int.mul_pos (pw k) (by omega)
  rw [Int.mul_assoc] at h1 h2
  have key : ∀ (q : Nat), q < 2 ^ 53 → W ≤ D * (q * 2 ^ k) → t < infMag ∧ V t ≤ q * 2 ^ k := by
    intro q hq hW
    have ht : t < infMag := by
      have := not_over hD hq hk hW
      omega
    obtain ⟨t0, h0, e0⟩ := rep k q hq hk
    refine ⟨ht, ?_⟩
    rw [← e0] at hW ⊢
    exact near_le hD (hn ht t0).1 hW
  have key2 : ∀ (q : Nat), q < 2 ^ 53 → t < infMag → D * (q * 2 ^ k) ≤ W → q * 2 ^ k ≤ V t := by
    intro q hq ht hW
    obtain ⟨t0, h0, e0⟩ := rep k q hq hk
    rw [← e0] at hW ⊢
    exact near_ge hD (hn ht t0).1 hW
  have cast : ∀ q : Nat, ((D * (q * 2 ^ k) : Nat) : Int) = (q : Int) * (2 ^ k * (D : Int)) := fun q => by
    rw [Int.natCast_mul, Int.natCast_mul, Int.natCast_pow]; show (D : Int) * ((q : Int) * 2 ^ k) = _; ac_rfl
  have fin : t < infMag → (lo * 2 ^ k ≤ sgn neg (V t) ∧ sgn neg (V t) ≤ hi * 2 ^ k) → Bd (pack neg t) lo hi k := fun ht hb => by
    obtain ⟨m, e, hd, _⟩ := decode_pack neg ht
    have := val_pack neg ht
    exact ⟨⟨_, _, _, hd⟩, by rw [this]; exact hb.1, by rw [this]; exact hb.2⟩
  have c2 : ∀ q : Nat, ((q * 2 ^ k : Nat) : Int) = (q : Int) * 2 ^ k := fun q => by rw [Int.natCast_mul, Int.natCast_pow]; rfl
  cases neg with
  | false =>
    have hv' : v = W := by rw [hv]; rfl
    have hi0 : 0 ≤ hi := by
      rcases Int.lt_or_le hi 0 with q | q
      · have := Int.mul_neg_of_neg_of_pos q hP; omega
      · exact q
    obtain ⟨n, rfl⟩ := Int.eq_ofNat_of_zero_le hi0
    obtain ⟨ht, hup⟩ := key n (by simpa using hhi) (by have := cast n; omega)
    refine fin ht ⟨?_, ?_⟩
    · show lo * 2 ^ k ≤ ((V t : Nat) : Int)
      rcases Int.lt_or_le lo 0 with q | q
      · have := Int.mul_neg_of_neg_of_pos q (pw k); omega
      · obtain ⟨n', rfl⟩ := Int.eq_ofNat_of_zero_le q
        have := key2 n' (by simpa using hlo) ht (by have := cast n'; omega)
        have c := c2 n'
        omega
    · show ((V t : Nat) : Int) ≤ (n : Int) * 2 ^ k
      have c := c2 n
      omega
  | true =>
    have hv' : v = -(W : Int) := by rw [hv]; rfl
    have lo0 : lo ≤ 0 := by
      rcases Int.lt_or_le 0 lo with q | q
      · have := Int.mul_pos q hP; omega
      · exact q
    obtain ⟨n, hn'⟩ := Int.eq_ofNat_of_zero_le (a := -lo) (by omega)
    have hlo' : lo = -(n : Int) := by omega
    subst hlo'
    rw [Int.neg_mul] at h1
    obtain ⟨ht, hup⟩ := key n (by omega) (by have := cast n; omega)
    refine fin ht ⟨?_, ?_⟩
    · show -(n : Int) * 2 ^ k ≤ -((V t : Nat) : Int)
      have c := c2 n
      rw [Int.neg_mul]
      omega
    · show -((V t : Nat) : Int) ≤ hi * 2 ^ k
      rcases Int.lt_or_le 0 hi with q | q
      · have := Int.mul_pos q (pw k); omega
      · obtain ⟨n', hn''⟩ := Int.eq_ofNat_of_zero_le (a := -hi) (by omega)
        have hhi' : hi = -(n' : Int) := by omega
        subst hhi'
        rw [Int.neg_mul] at h2
        have := key2 n' (by omega) ht (by have := cast n'; omega)
        have c := c2 n'
        rw [Int.neg_mul]
        omega

theorem zero_bd (s : Bool) {lo hi : Int} (j : Nat) (h1 : lo ≤ 0) (h2 : 0 ≤ hi) : Bd (zero s) lo hi j := by
  have ht : 0 < infMag := by decide
  obtain ⟨m, e, hd, hV⟩ := decode_pack s ht
  have hv : val (zero s) = 0 := by
    show val (pack s 0) = 0
    rw [val_pack s ht, V_zero]; cases s <;> rfl
  refine ⟨⟨_, _, _, hd⟩, ?_, ?_⟩
  · rw [hv]; exact Int.mul_nonpos_of_nonpos_of_nonneg h1 (Int.le_of_lt (pw j))
  · rw [hv]; exact Int.mul_nonneg h2 (Int.le_of_lt (pw j))
theorem sgn_self (s : Int) : s = sgn (decide (s < 0)) s.natAbs := by
  unfold sgn
  by_cases h : s < 0
  · simp [h]; omega
  · simp [h]; omega

theorem Bd.add {x y : UInt64} {l1 h1 l2 h2 : Int} {j : Nat} (X : Bd x l1 h1 j) (Y : Bd y l2 h2 j) (a : (l1 + l2).natAbs < 2 ^ 53) (b : (h1 + h2).natAbs < 2 ^ 53) (hj : j ≤ 2045) : Bd (Float64.add x y) (l1 + l2) (h1 + h2) j := by
  obtain ⟨⟨a1, m1, e1, d1⟩, x1, x2⟩ := X
  obtain ⟨⟨a2, m2, e2, d2⟩, y1, y2⟩ := Y
  have R := add_right d1 d2
  have lo : (l1 + l2) * 2 ^ j ≤ val x + val y := by rw [Int.add_mul]; omega
  have hi : val x + val y ≤ (h1 + h2) * 2 ^ j := by rw [Int.add_mul]; omega
  by_cases hz : val x + val y = 0
  · rw [R.1 hz]
    rw [hz] at lo hi
    refine zero_bd _ _ ?_ ?_
    · rcases Int.lt_or_le 0 (l1 + l2) with q | q
      · have := Int.mul_pos q (pw j); omega
      · exact q
    · rcases Int.lt_or_le (h1 + h2) 0 with q | q
      · have := Int.mul_neg_of_neg_of_pos q (pw j); omega
      · exact q
  · exact core (R.2 hz) (by decide) (sgn_self _) a b hj (by simpa using lo) (by simpa using hi)
theorem Bd.neg {x : UInt64} {l h : Int} {j : Nat} (X : Bd x l h j) : Bd (Float64.neg x) (-h) (-l) j := by
  obtain ⟨⟨a1, m1, e1, d1⟩, x1, x2⟩ := X
  refine ⟨⟨_, _, _, neg_decode d1⟩, ?_, ?_⟩ <;> rw [neg_val d1, Int.neg_mul] <;> omega
theorem Bd.sub {x y : UInt64} {l1 h1 l2 h2 : Int} {j : Nat} (X : Bd x l1 h1 j) (Y : Bd y l2 h2 j) (a : (l1 - h2).natAbs < 2 ^ 53) (b : (h1 - l2).natAbs < 2 ^ 53) (hj : j ≤ 2045) : Bd (Float64.sub x y) (l1 - h2) (h1 - l2) j := by
  rw [Int.sub_eq_add_neg, Int.sub_eq_add_neg, show Float64.sub x y = Float64.add x (Float64.neg y) from by with_unfolding_all rfl]
  exact X.add Y.neg (by rw [← Int.sub_eq_add_neg]; exact a) (by rw [← Int.sub_eq_add_neg]; exact b) hj
theorem sgn_mul2 (a b : Bool) (m k : Nat) : sgn a m * sgn b k = sgn (a != b) (m * k) := by
  cases a <;> cases b <;> simp [sgn, Int.neg_mul, Int.mul_neg, Int.natCast_mul]
theorem val_sgn {x : UInt64} {a : Bool} {m : Nat} {e : Int} (h : decode x = .fin a m e) : val x = sgn a (val x).natAbs := by rw [val_natAbs h, val_eq h]
/-- a product between representable bounds -/
theorem mul_bd {x y : UInt64} {lo hi : Int} {k : Nat} (X : ∃ a m e, decode x = .fin a m e) (Y : ∃ a m e, decode y = .fin a m e) (a : lo.natAbs < 2 ^ 53) (b : hi.natAbs < 2 ^ 53) (hk : k ≤ 2045)
    (h1 : lo * 2 ^ (k + 1074) ≤ val x * val y) (h2 : val x * val y ≤ hi * 2 ^ (k + 1074)) : Bd (Float64.mul x y) lo hi k := by
  obtain ⟨a1, m1, e1, d1⟩ := X
  obtain ⟨a2, m2, e2, d2⟩ := Y
  have c : ((2 ^ 1074 : Nat) : Int) = (2 : Int) ^ 1074 := by rw [Int.natCast_pow]; rfl
  refine core (v := val x * val y) (mul_right d1 d2) (Nat.two_pow_pos _) ?_ a b hk ?_ ?_
  · rw [← sgn_mul2, ← val_sgn d1, ← val_sgn d2]
  · rw [c, Int.mul_assoc, ← Int.pow_add]; exact h1
  · rw [c, Int.mul_assoc, ← Int.pow_add]; exact h2
theorem mul_is {x y : UInt64} {p q : Int} {i j k : Nat} (X : Is x p i) (Y : Is y q j) (a : (p * q).natAbs < 2 ^ 53) (hk : k ≤ 2045) (e : i + j = k + 1074) : Is (Float64.mul x y) (p * q) k := by
  have hv : val x * val y = p * q * 2 ^ (k + 1074) := by
    rw [X.val, Y.val, ← e, Int.pow_add]; generalize (2 : Int) ^ i = A; generalize (2 : Int) ^ j = B; ac_rfl
  exact mul_bd X.1 Y.1 a a hk (Int.le_of_eq hv.symm) (Int.le_of_eq hv)
theorem div_bd {x y : UInt64} {lo hi : Int} {k : Nat} (X : ∃ a m e, decode x = .fin a m e) (Y : ∃ a m e, decode y = .fin a m e) (hy : 0 < val y) (a : lo.natAbs < 2 ^ 53) (b : hi.natAbs < 2 ^ 53) (hk : k ≤ 2045)
    (h1 : lo * 2 ^ k * val y ≤ val x * 2 ^ 1074) (h2 : val x * 2 ^ 1074 ≤ hi * 2 ^ k * val y) : Bd (Float64.div x y) lo hi k := by
  obtain ⟨a1, m1, e1, d1⟩ := X
  obtain ⟨a2, m2, e2, d2⟩ := Y
  have hm : m2 ≠ 0 := fun q => by subst q; have := val_natAbs d2; rw [Nat.zero_mul] at this; omega
  have ha2 : a2 = false := by
    cases a2 with
    | false => rfl
    | true => have := val_sgn d2; unfold sgn at this; simp at this; omega
  have c : (((val y).natAbs : Nat) : Int) = val y := by omega
  refine core (v := val x * 2 ^ 1074) (div_right d1 d2 hm) (by omega) ?_ a b hk ?_ ?_
  · subst ha2
    have e : (a1 != false) = a1 := by cases a1 <;> rfl
    rw [e, sgn_mul, ← val_sgn d1, Int.natCast_pow]
    rfl
  · rw [c]; exact h1
  · rw [c]; exact h2
end Mine
end
section
open PySem
namespace Mine
open PySem.Float64

theorem abs_decode {x : UInt64} {a : Bool} {m : Nat} {e : Int} (h : decode x = .fin a m e) : decode (Float64.abs x) = .fin false m e := by
  have hnan : isNaN x = false := by unfold isNaN; rw [h]
  have hN : (Float64.abs x).toNat = x.toNat % 2 ^ 63 := by
    unfold Float64.abs
    rw [if_neg (by simp [hnan]), pack_toNat false (Nat.mod_lt _ (by decide))]
    simp
  have h1 : ((Float64.abs x).toNat / 2 ^ 63 == 1) = false := by
    rw [hN]
    have : x.toNat % 2 ^ 63 / 2 ^ 63 = 0 := Nat.div_eq_of_lt (Nat.mod_lt _ (by decide))
    rw [this]; rfl
  have h2 : (Float64.abs x).toNat / 2 ^ 52 % 2048 = x.toNat / 2 ^ 52 % 2048 := by omega
  have h3 : (Float64.abs x).toNat % 2 ^ 52 = x.toNat % 2 ^ 52 := by omega
  unfold decode at h ⊢
  simp only [h1, h2, h3] at h ⊢
  split at h
  · split at h <;> cases h
  · rename_i g1
    rw [if_neg g1]
    split at h
    · rename_i g4
      rw [if_pos g4]
      cases h
      rfl
    · rename_i g4
      rw [if_neg g4]
      cases h
      rfl
theorem abs_val {x : UInt64} {a : Bool} {m : Nat} {e : Int} (h : decode x = .fin a m e) : val (Float64.abs x) = ((val x).natAbs : Int) := by
  rw [val_eq (abs_decode h), val_natAbs h]; rfl
theorem Is.abs {x : UInt64} {n : Int} {j : Nat} (X : Is x n j) : Is (Float64.abs x) (n.natAbs : Int) j := by
  have hv := X.val
  obtain ⟨⟨a, m, e, d⟩, _⟩ := X
  refine Is.mk ⟨_, _, _, abs_decode d⟩ ?_
  rw [abs_val d, hv, Int.natAbs_mul, Int.natCast_mul]
  congr 1
theorem is_ofInt {i : Int} (h : i.natAbs < 2 ^ 53) : Is (Float64.ofInt i) i 1074 := by
  refine core (v := i * 2 ^ 1074) (ofInt_right i) (by decide) ?_ h h (by decide) (by simp) (by simp)
  rw [sgn_mul, Int.natCast_pow]
  congr 1
  exact sgn_self i
theorem Is.cmp {x y : UInt64} {p q : Int} {j : Nat} (X : Is x p j) (Y : Is y q j) : Float64.cmp x y = some (compare p q) := by
  have h1 := X.val
  have h2 := Y.val
  obtain ⟨⟨_, _, _, d1⟩, _⟩ := X
  obtain ⟨⟨_, _, _, d2⟩, _⟩ := Y
  rw [cmp_right d1 d2, h1, h2]
  have hP := pw j
  congr 1
  rcases Int.lt_trichotomy p q with h | h | h
  · rw [Int.compare_eq_lt.mpr h, Int.compare_eq_lt.mpr (Int.mul_lt_mul_of_pos_right h hP)]
  · subst h; simp
  · rw [Int.compare_eq_gt.mpr h, Int.compare_eq_gt.mpr (Int.mul_lt_mul_of_pos_right h hP)]
theorem Bd.wk {x : UInt64} {l h l' h' : Int} {j : Nat} (X : Bd x l h j) (a : l' ≤ l) (b : h ≤ h') : Bd x l' h' j :=
  ⟨X.1, Int.le_trans (Int.mul_le_mul_of_nonneg_right a (Int.le_of_lt (pw j))) X.2.1, Int.le_trans X.2.2 (Int.mul_le_mul_of_nonneg_right b (Int.le_of_lt (pw j)))⟩
theorem Bd.up {x : UInt64} {l h : Int} {j : Nat} (c : Nat) (X : Bd x l h (j + c)) : Bd x (l * 2 ^ c) (h * 2 ^ c) j := by
  obtain ⟨a, b, d⟩ := X
  refine ⟨a, ?_, ?_⟩
  · rw [Int.mul_assoc, ← Int.pow_add, Nat.add_comm]; exact b
  · rw [Int.mul_assoc, ← Int.pow_add, Nat.add_comm]; exact d

/-- fma is right -/
theorem fma_right {x y z : UInt64} {a b c : Bool} {m k n : Nat} {e f g : Int} (hx : decode x = .fin a m e) (hy : decode y = .fin b k f) (hz : decode z = .fin c n g) :
    (val x * val y + val z * 2 ^ 1074 = 0 → ∃ s, fma x y z = zero s) ∧
    (val x * val y + val z * 2 ^ 1074 ≠ 0 → Right (fma x y z) (decide (val x * val y + val z * 2 ^ 1074 < 0)) (val x * val y + val z * 2 ^ 1074).natAbs (2 ^ 1074)) := by
  have he := decode_ge hx
  have hf := decode_ge hy
  have hg := decode_ge hz
  have hp : (sgn (a != b) (m * k * 2 ^ (e + f - min (e + f) g).toNat) + sgn c (n * 2 ^ (g - min (e + f) g).toNat)) * ((2 ^ (min (e + f) g + 2148).toNat : Nat) : Int) = val x * val y + val z * 2 ^ 1074 := by
    have c1 : (2 : Int) ^ 1074 = ((2 ^ 1074 : Nat) : Int) := by rw [Int.natCast_pow]; rfl
    rw [Int.add_mul, ← sgn_mul, ← sgn_mul, val_eq hx, val_eq hy, val_eq hz, sgn_mul2, c1, ← sgn_mul, Nat.mul_assoc, ← Nat.pow_add, Nat.mul_assoc n, ← Nat.pow_add, Nat.mul_assoc n, ← Nat.pow_add]
    have e1 : (e + f - min (e + f) g).toNat + (min (e + f) g + 2148).toNat = (e + 1074).toNat + (f + 1074).toNat := by omega
    have e2 : (g - min (e + f) g).toNat + (min (e + f) g + 2148).toNat = (g + 1074).toNat + 1074 := by omega
    rw [e1, e2, Nat.pow_add 2 (e + 1074).toNat]
    congr 2
    generalize (2 : Nat) ^ (e + 1074).toNat = A
    generalize (2 : Nat) ^ (f + 1074).toNat = B
    ac_rfl
  have hfma : fma x y z = (if sgn (a != b) (m * k * 2 ^ (e + f - min (e + f) g).toNat) + sgn c (n * 2 ^ (g - min (e + f) g).toNat) == 0 then zero (if m * k == 0 && n == 0 then (a != b) && c else false) else ofBin (decide (sgn (a != b) (m * k * 2 ^ (e + f - min (e + f) g).toNat) + sgn c (n * 2 ^ (g - min (e + f) g).toNat) < 0)) (sgn (a != b) (m * k * 2 ^ (e + f - min (e + f) g).toNat) + sgn c (n * 2 ^ (g - min (e + f) g).toNat)).natAbs (min (e + f) g)) := by
    unfold fma
    rw [hx, hy, hz]
    rfl
  rw [← hp, hfma]
  generalize sgn (a != b) (m * k * 2 ^ (e + f - min (e + f) g).toNat) + sgn c (n * 2 ^ (g - min (e + f) g).toNat) = s
  have hpos : (0 : Int) < ((2 ^ (min (e + f) g + 2148).toNat : Nat) : Int) := Int.ofNat_lt.mpr (Nat.two_pow_pos _)
  by_cases hs : s = 0
  · subst hs
    refine ⟨fun _ => ⟨_, if_pos (by rfl)⟩, fun h => absurd (Int.zero_mul _) h⟩
  · have hne : s * ((2 ^ (min (e + f) g + 2148).toNat : Nat) : Int) ≠ 0 := Int.mul_ne_zero hs (Int.ne_of_gt hpos)
    refine ⟨fun h => absurd h hne, fun _ => ?_⟩
    rw [if_neg (by simpa using hs)]
    have hsg : decide (s < 0) = decide (s * ((2 ^ (min (e + f) g + 2148).toNat : Nat) : Int) < 0) := by
      by_cases h : s < 0
      · rw [decide_eq_true h, decide_eq_true (Int.mul_neg_of_neg_of_pos h hpos)]
      · rw [decide_eq_false h, decide_eq_false (Int.not_lt.mpr (Int.mul_nonneg (by omega) (Int.le_of_lt hpos)))]
    rw [← hsg]
    unfold ofBin
    refine ofFrac_right (shift_pos _ _ _ (by decide)) ?_ (Nat.two_pow_pos _)
    have := shift_one s.natAbs (min (e + f) g) 2148 (by omega)
    rw [Int.natAbs_mul, Int.natAbs_natCast]
    rw [Nat.mul_assoc, ← Nat.pow_add]
    exact this

/-- fma between representable bounds -/
theorem fma_bd {x y z : UInt64} {lo hi : Int} {k : Nat} (X : ∃ a m e, decode x = .fin a m e) (Y : ∃ a m e, decode y = .fin a m e) (Z : ∃ a m e, decode z = .fin a m e) (a : lo.natAbs < 2 ^ 53) (b : hi.natAbs < 2 ^ 53) (hk : k ≤ 2045)
    (h1 : lo * 2 ^ (k + 1074) ≤ val x * val y + val z * 2 ^ 1074) (h2 : val x * val y + val z * 2 ^ 1074 ≤ hi * 2 ^ (k + 1074)) : Bd (Float64.fma x y z) lo hi k := by
  obtain ⟨a1, m1, e1, d1⟩ := X
  obtain ⟨a2, m2, e2, d2⟩ := Y
  obtain ⟨a3, m3, e3, d3⟩ := Z
  have c : ((2 ^ 1074 : Nat) : Int) = (2 : Int) ^ 1074 := by rw [Int.natCast_pow]; rfl
  have R := fma_right d1 d2 d3
  by_cases hz : val x * val y + val z * 2 ^ 1074 = 0
  · obtain ⟨s, es⟩ := R.1 hz
    rw [es]
    rw [hz] at h1 h2
    refine zero_bd _ _ ?_ ?_
    · rcases Int.lt_or_le 0 lo with q | q
      · have := Int.mul_pos q (pw (k + 1074)); omega
      · exact q
    · rcases Int.lt_or_le hi 0 with q | q
      · have := Int.mul_neg_of_neg_of_pos q (pw (k + 1074)); omega
      · exact q
  · refine core (R.2 hz) (Nat.two_pow_pos _) (sgn_self _) a b hk ?_ ?_
    · rw [c, Int.mul_assoc, ← Int.pow_add]; exact h1
    · rw [c, Int.mul_assoc, ← Int.pow_add]; exact h2

/-- the root between representable bounds -/
theorem sqrt_bd {x : UInt64} {n lo hi k : Nat} (X : Is x n (2 * k - 1074)) (hk2 : 1074 ≤ 2 * k) (hn : 0 < n) (hk : k ≤ 2045) (a : lo < 2 ^ 53) (b : hi < 2 ^ 53) (h1 : lo * lo ≤ n) (h2 : n ≤ hi * hi) : Bd (Float64.sqrt x) lo hi k := by
  have hv := X.val
  obtain ⟨⟨s, m, e, d⟩, _⟩ := X
  have hP : (0 : Int) < 2 ^ (2 * k - 1074) := pw _
  have hpos : 0 < val x := by rw [hv]; exact Int.mul_pos (by omega) hP
  have hs : s = false := by
    cases s with
    | false => rfl
    | true => have := val_sgn d; unfold sgn at this; simp at this; omega
  subst hs
  have hm : m ≠ 0 := fun q => by subst q; have := val_natAbs d; rw [Nat.zero_mul] at this; omega
  obtain ⟨t, ht, hlt, up, dn⟩ := sqrt_right d hm
  have hN : (val x).natAbs * 2 ^ 1074 = n * (2 ^ k * 2 ^ k) := by
    have i2 : (2 : Int).natAbs = 2 := rfl
    have ee : 2 * k - 1074 + 1074 = k + k := by omega
    rw [hv, Int.natAbs_mul, Int.natAbs_natCast, Int.natAbs_pow, i2, Nat.mul_assoc, ← Nat.pow_add, ee, Nat.pow_add]
  rw [hN] at up dn
  obtain ⟨tl, hl0, el⟩ := rep k lo a hk
  obtain ⟨th, hh0, eh⟩ := rep k hi b hk
  have hp : 0 < 2 ^ k := Nat.two_pow_pos k
  rw [ht]
  obtain ⟨m', e', hd', _⟩ := decode_pack false hlt
  have hvp : val (pack false t) = ((V t : Nat) : Int) := val_pack false hlt
  have c2 : ∀ q : Nat, ((q * 2 ^ k : Nat) : Int) = (q : Int) * 2 ^ k := fun q => by rw [Int.natCast_mul, Int.natCast_pow]; rfl
  refine ⟨⟨_, _, _, hd'⟩, ?_, ?_⟩
  · rw [hvp, ← c2, ← el]
    refine Int.ofNat_le.mpr ?_
    rcases Nat.lt_or_ge t tl with q | q
    · exfalso
      have u := up tl q
      have vl := V_lt q
      have w1 : lo * lo * (2 ^ k * 2 ^ k) ≤ n * (2 ^ k * 2 ^ k) := Nat.mul_le_mul_right _ h1
      have w2 : lo * lo * (2 ^ k * 2 ^ k) = V tl * V tl := by rw [el]; generalize (2 : Nat) ^ k = P; ac_rfl
      have w3 : (V t + V tl) * (V t + V tl) < (2 * V tl) * (2 * V tl) := Nat.mul_self_lt_mul_self (by omega)
      have w4 : (2 * V tl) * (2 * V tl) = 4 * (V tl * V tl) := by rw [show (4 : Nat) = 2 * 2 by decide]; ac_rfl
      omega
    · exact V_mono q
  · rw [hvp, ← c2, ← eh]
    refine Int.ofNat_le.mpr ?_
    rcases Nat.lt_or_ge th t with q | q
    · exfalso
      have u := dn th q
      have vl := V_lt q
      have w1 : n * (2 ^ k * 2 ^ k) ≤ hi * hi * (2 ^ k * 2 ^ k) := Nat.mul_le_mul_right _ h2
      have w2 : hi * hi * (2 ^ k * 2 ^ k) = V th * V th := by rw [eh]; generalize (2 : Nat) ^ k = P; ac_rfl
      have w3 : (2 * V th) * (2 * V th) < (V t + V th) * (V t + V th) := Nat.mul_self_lt_mul_self (by omega)
      have w4 : (2 * V th) * (2 * V th) = 4 * (V th * V th) := by rw [show (4 : Nat) = 2 * 2 by decide]; ac_rfl
      omega
    · exact V_mono q
end Mine
end
section
open PySem
namespace Mine
open PySem.Float64 PySem.Builtin.Math

theorem log2_shift {m i : Nat} (h : m ≠ 0) : (m * 2 ^ i).log2 = m.log2 + i := by
  have h0 : m * 2 ^ i ≠ 0 := Nat.mul_ne_zero h (Nat.ne_of_gt (Nat.two_pow_pos i))
  refine Nat.le_antisymm (Nat.le_of_lt_succ ((Nat.log2_lt h0).mpr ?_)) ((Nat.le_log2 h0).mpr ?_)
  · have := (Nat.log2_lt (k := m.log2 + 1) h).mp (Nat.lt_succ_self _)
    rw [show (m.log2 + i).succ = m.log2 + 1 + i by omega, Nat.pow_add]
    exact Nat.mul_lt_mul_of_pos_right this (Nat.two_pow_pos i)
  · rw [Nat.pow_add]
    exact Nat.mul_le_mul_right _ (Nat.log2_self_le h)

theorem frexp_exp {x : UInt64} {n j : Nat} (X : Is x n j) (hn : n ≠ 0) : (frexp x).2 = (n.log2 : Int) + 1 + j - 1074 := by
  have hv := X.val
  obtain ⟨⟨a, m, e, d⟩, _⟩ := X
  have hm0 := val_natAbs d
  have hge := decode_ge d
  have hN : (val x).natAbs = n * 2 ^ j := by rw [hv, Int.natAbs_mul, Int.natAbs_natCast, Int.natAbs_pow]; rfl
  rw [hN] at hm0
  have hm : m ≠ 0 := fun q => by
    subst q
    rw [Nat.zero_mul] at hm0
    exact Nat.mul_ne_zero hn (Nat.ne_of_gt (Nat.two_pow_pos j)) hm0
  have e1 := log2_shift (i := j) hn
  have e2 := log2_shift (i := (e + 1074).toNat) hm
  rw [hm0] at e1
  have hf : (frexp x).2 = e + m.log2 + 1 := by
    unfold frexp
    rw [d]
    simp only
    rw [if_neg (by simpa using hm)]
  rw [hf]
  omega

theorem one_is : Is Float64.one 1 1074 := by
  refine Is.mk ⟨false, 2 ^ 52, -52, by with_unfolding_all rfl⟩ ?_
  decide +kernel
theorem two_is : Is (Float64.ofInt 2) 2 1074 := is_ofInt (by decide)

theorem ldexp_is {E : Int} (h1 : -900 ≤ E) (h2 : E ≤ 900) : Is (Float64.ldexp Float64.one (-E)) 1 (1074 - E).toNat := by
  have d : decode Float64.one = .fin false (2 ^ 52) (-52) := by with_unfolding_all rfl
  have hl : Float64.ldexp Float64.one (-E) = ofBin false (2 ^ 52) (-52 + -E) := by
    unfold ldexp
    rw [d]
    simp only
    congr 2
    omega
  rw [hl]
  have hp : (2 : Nat) ^ 52 * 2 ^ (-52 + -E + 1074).toNat = 2 ^ (1074 - E).toNat := by
    rw [← Nat.pow_add]; congr 1; omega
  refine core (v := 1 * 2 ^ (1074 - E).toNat) (ofBin_right (by omega)) (by decide) ?_ (by decide) (by decide) (by omega) (by simp) (by simp)
  rw [hp]
  unfold sgn
  simp

theorem gt_of {x y : UInt64} {p q : Int} {j : Nat} (X : Is x p j) (Y : Is y q j) : Float64.gt x y = decide (q < p) := by
  unfold Float64.gt
  rw [X.cmp Y]
  rcases Int.lt_trichotomy p q with h | h | h
  · rw [Int.compare_eq_lt.mpr h]; simp; omega
  · subst h; simp
  · rw [Int.compare_eq_gt.mpr h]; simp [h]

theorem maxMag {x1 x2 : UInt64} {n1 n2 j : Nat} (X1 : Is x1 n1 j) (X2 : Is x2 n2 j) : Is (maxMagnitude [x1, x2]) (max n1 n2 : Nat) j := by
  have Z : Is (zero false) (0 : Int) j := zero_bd _ _ (Int.le_refl _) (Int.le_refl _)
  unfold maxMagnitude
  simp only [List.foldl_cons, List.foldl_nil]
  have M1 : Is (if Float64.gt x1 (zero false) = true then x1 else zero false) (n1 : Int) j := by
    rw [gt_of X1 Z]
    by_cases h1 : (0 : Int) < n1
    · rw [if_pos (by simpa using h1)]; exact X1
    · rw [if_neg (by simpa using h1)]
      have : n1 = 0 := by omega
      subst this
      exact Z
  generalize (if Float64.gt x1 (zero false) = true then x1 else zero false) = m1 at *
  rw [gt_of X2 M1]
  by_cases h2 : (n1 : Int) < n2
  · rw [if_pos (by simpa using h2), Nat.max_eq_right (by omega)]; exact X2
  · rw [if_neg (by simpa using h2), Nat.max_eq_left (by omega)]; exact M1

theorem Bd.eq {x : UInt64} {l h l' h' : Int} {j : Nat} (X : Bd x l h j) (a : l = l') (b : h = h') : Bd x l' h' j := a ▸ b ▸ X

/-- the exact square of a scaled side -/
theorem dlMul_sq {y : UInt64} {n B : Nat} (Y : Is y n (1074 - B)) (hn : n < 2 ^ B) (hB : B ≤ 25) :
    Is (dlMul y y).1 ((n * n * 2 ^ (50 - 2 * B) : Nat) : Int) 1024 ∧ Is (dlMul y y).2 0 1024 := by
  have hlt : n < 2 ^ 25 := Nat.lt_of_lt_of_le hn (Nat.pow_le_pow_right (by decide) hB)
  have hsq : n * n < 2 ^ 50 := by
    have := Nat.mul_lt_mul'' hlt hlt
    omega
  have Z : Is (Float64.mul y y) ((n : Int) * n) (1024 + (50 - 2 * B)) := by
    refine mul_is Y Y ?_ (by omega) (by omega)
    rw [Int.natAbs_mul, Int.natAbs_natCast]; omega
  have Z1 := Z.up
  refine ⟨?_, ?_⟩
  · refine Z1.eq ?_ ?_ <;> · rw [Int.natCast_mul, Int.natCast_mul, Int.natCast_pow]; rfl
  · have NZ := Z.neg
    have hv : Float64.val y * Float64.val y + Float64.val (Float64.neg (Float64.mul y y)) * 2 ^ 1074 = 0 := by
      have e1 := Y.val
      have e2 := Is.val (n := -((n : Int) * n)) NZ
      rw [e1, e2, Int.neg_mul, Int.neg_mul, Int.mul_assoc ((n : Int) * n), ← Int.pow_add]
      have e3 : 1024 + (50 - 2 * B) + 1074 = (1074 - B) + (1074 - B) := by omega
      rw [e3, Int.pow_add]
      generalize (2 : Int) ^ (1074 - B) = P
      have : (n : Int) * P * (↑n * P) = ↑n * ↑n * (P * P) := by ac_rfl
      omega
    exact fma_bd Y.1 Y.1 NZ.1 (by decide) (by decide) (by decide) (by rw [hv, Int.zero_mul]; exact Int.le_refl _) (by rw [hv, Int.zero_mul]; exact Int.le_refl _)

theorem fastSum_is {c a : UInt64} {C A : Int} (X : Is c C 1024) (Y : Is a A 1024) (h1 : C.natAbs < 2 ^ 52) (h2 : A.natAbs < 2 ^ 52) :
    Is (dlFastSum c a).1 (C + A) 1024 ∧ Is (dlFastSum c a).2 0 1024 := by
  have S : Is (Float64.add c a) (C + A) 1024 := X.add Y (by omega) (by omega) (by decide)
  have D : Is (Float64.sub c (Float64.add c a)) (C - (C + A)) 1024 := X.sub S (by omega) (by omega) (by decide)
  have T := D.add Y (by omega) (by omega) (by decide)
  exact ⟨S, T.eq (by omega) (by omega)⟩
end Mine
end
section
open PySem
namespace Mine
open PySem.Float64 PySem.Builtin.Math

/-- the two squares summed: what the fold leaves -/
def stepF (st : UInt64 × UInt64 × UInt64) (pr : UInt64 × UInt64) : UInt64 × UInt64 × UInt64 :=
  ((dlFastSum st.1 pr.1).1, Float64.add st.2.1 pr.2, Float64.add st.2.2 (dlFastSum st.1 pr.1).2)

theorem scaledNorm_eq (xs : List UInt64) (big : UInt64) : scaledNorm xs big =
    (let scale := Float64.ldexp Float64.one (-(Float64.frexp big).2)
     let st := xs.foldl (fun st x => stepF st (dlMul (Float64.mul x scale) (Float64.mul x scale))) (Float64.one, Float64.zero false, Float64.zero false)
     let h := Float64.sqrt (Float64.add (Float64.sub st.1 Float64.one) (Float64.add st.2.1 st.2.2))
     let st := stepF st (dlMul (Float64.neg h) h)
     let x := Float64.add (Float64.sub st.1 Float64.one) (Float64.add st.2.1 st.2.2)
     Float64.div (Float64.add h (Float64.div x (Float64.mul (Float64.ofInt 2) h))) scale) := rfl

theorem one_up : Is Float64.one (2 ^ 50) 1024 := by
  have := Bd.up (j := 1024) 50 (show Bd Float64.one 1 1 (1024 + 50) from one_is)
  exact this.eq (by decide) (by decide)

/-- the last correction: h from the root, the sum C of one and the squares -/
theorem fix_bd {c f1 f2 h : UInt64} {S R1 R2 : Nat} (X : Is c ((2 ^ 50 + S : Nat) : Int) 1024) (F1 : Is f1 0 1024) (F2 : Is f2 0 1024) (H : Bd h R1 R2 1049)
    (hS : S < 2 ^ 51) (b1 : R1 * R1 ≤ S) (b2 : S ≤ R2 * R2) (b3 : 2 ^ 24 ≤ R1) (b4 : R2 ≤ R1 + 1) (b5 : R1 ≤ R2) :
    Bd (Float64.add h (Float64.div (Float64.add (Float64.sub (stepF (c, f1, f2) (dlMul (Float64.neg h) h)).1 Float64.one) (Float64.add (stepF (c, f1, f2) (dlMul (Float64.neg h) h)).2.1 (stepF (c, f1, f2) (dlMul (Float64.neg h) h)).2.2)) (Float64.mul (Float64.ofInt 2) h)))
      ((R1 : Int) * 2 ^ 25 - 3 * ((R2 * R2 : Nat) - (R1 * R1 : Nat) : Int)) ((R2 : Int) * 2 ^ 25 + 3 * ((R2 * R2 : Nat) - (R1 * R1 : Nat) : Int)) 1024 := by
  have r1 : R1 < 2 ^ 26 := by
    rcases Nat.lt_or_ge R1 (2 ^ 26) with q | q
    · exact q
    · have := Nat.mul_le_mul q q; omega
  have r2 : R2 ≤ 2 ^ 26 := by omega
  have hd : R2 * R2 ≤ R1 * R1 + 2 ^ 28 := by
    have h1 : R2 * R2 ≤ (R1 + 1) * (R1 + 1) := Nat.mul_le_mul b4 b4
    have h2 : (R1 + 1) * (R1 + 1) = R1 * R1 + 2 * R1 + 1 := by rw [Nat.mul_add, Nat.add_mul]; omega
    omega
  have q2 : R2 * R2 ≤ 2 ^ 52 := by have := Nat.mul_le_mul r2 r2; omega
  have hN := H.neg
  have hvN : Float64.val (Float64.neg h) = -Float64.val h := by
    obtain ⟨⟨_, _, _, d⟩, _⟩ := H
    exact neg_val d
  -- h's worth, squared
  have e2 : (2 : Int) ^ 2098 = 2 ^ 1049 * 2 ^ 1049 := by rw [← Int.pow_add]
  have hsq : ((R1 * R1 : Nat) : Int) * 2 ^ 2098 ≤ Float64.val h * Float64.val h ∧ Float64.val h * Float64.val h ≤ ((R2 * R2 : Nat) : Int) * 2 ^ 2098 := by
    obtain ⟨_, l, u⟩ := H
    have hp := pw 1049
    have hr : (0 : Int) ≤ (R1 : Int) * 2 ^ 1049 := Int.mul_nonneg (by omega) (Int.le_of_lt hp)
    rw [e2, Int.natCast_mul, Int.natCast_mul]
    generalize (2 : Int) ^ 1049 = P at *
    constructor
    · have := Int.mul_le_mul l l hr (by omega)
      have e : (R1 : Int) * R1 * (P * P) = R1 * P * (R1 * P) := by ac_rfl
      omega
    · have := Int.mul_le_mul u u (by omega) (by omega)
      have e : (R2 : Int) * R2 * (P * P) = R2 * P * (R2 * P) := by ac_rfl
      omega
  generalize hP1 : R1 * R1 = P1 at *
  generalize hP2 : R2 * R2 = P2 at *
  have M : Bd (Float64.mul (Float64.neg h) h) (-(P2 : Int)) (-(P1 : Int)) 1024 := by
    refine mul_bd hN.1 H.1 (by omega) (by omega) (by decide) ?_ ?_
    · show -(P2 : Int) * 2 ^ 2098 ≤ _
      rw [hvN, Int.neg_mul, Int.neg_mul]; omega
    · show _ ≤ -(P1 : Int) * 2 ^ 2098
      rw [hvN, Int.neg_mul, Int.neg_mul]; omega
  have MN := M.neg
  have Wd : Bd (Float64.fma (Float64.neg h) h (Float64.neg (Float64.mul (Float64.neg h) h))) (-((P2 : Int) - P1)) ((P2 : Int) - P1) 1024 := by
    have e3 : (2 : Int) ^ 2098 = 2 ^ 1024 * 2 ^ 1074 := by rw [← Int.pow_add]
    have l1 := Int.mul_le_mul_of_nonneg_right MN.2.1 (Int.le_of_lt (pw 1074))
    have l2 := Int.mul_le_mul_of_nonneg_right MN.2.2 (Int.le_of_lt (pw 1074))
    rw [Int.mul_assoc, ← e3] at l1 l2
    refine fma_bd hN.1 H.1 MN.1 (by omega) (by omega) (by decide) ?_ ?_
    · show _ * (2 : Int) ^ 2098 ≤ _
      rw [hvN, Int.neg_mul, Int.neg_mul, Int.sub_mul]; omega
    · show _ ≤ _ * (2 : Int) ^ 2098
      rw [hvN, Int.neg_mul, Int.sub_mul]; omega
  show Bd (Float64.add h (Float64.div (Float64.add (Float64.sub (Float64.add c (Float64.mul (Float64.neg h) h)) Float64.one)
    (Float64.add (Float64.add f1 (Float64.fma (Float64.neg h) h (Float64.neg (Float64.mul (Float64.neg h) h))))
      (Float64.add f2 (Float64.add (Float64.sub c (Float64.add c (Float64.mul (Float64.neg h) h))) (Float64.mul (Float64.neg h) h))))) (Float64.mul (Float64.ofInt 2) h))) _ _ _
  generalize Float64.fma (Float64.neg h) h (Float64.neg (Float64.mul (Float64.neg h) h)) = wd at *
  generalize Float64.mul (Float64.neg h) h = p at *
  have A : Bd (Float64.add c p) _ _ 1024 := X.add M (by omega) (by omega) (by decide)
  have D : Bd (Float64.sub c (Float64.add c p)) _ _ 1024 := X.sub A (by omega) (by omega) (by decide)
  have D2 : Bd (Float64.add (Float64.sub c (Float64.add c p)) p) _ _ 1024 := D.add M (by omega) (by omega) (by decide)
  have G1 : Bd (Float64.add f1 wd) _ _ 1024 := F1.add Wd (by omega) (by omega) (by decide)
  have G2 : Bd (Float64.add f2 (Float64.add (Float64.sub c (Float64.add c p)) p)) _ _ 1024 := F2.add D2 (by omega) (by omega) (by decide)
  have O := one_up
  have e50 : (2 : Int) ^ 50 = 1125899906842624 := by decide
  rw [e50] at O
  have U : Bd (Float64.sub (Float64.add c p) Float64.one) _ _ 1024 := A.sub O (by omega) (by omega) (by decide)
  have G : Bd (Float64.add (Float64.add f1 wd) (Float64.add f2 (Float64.add (Float64.sub c (Float64.add c p)) p))) _ _ 1024 := G1.add G2 (by omega) (by omega) (by decide)
  have Z := (U.add G (by omega) (by omega) (by decide)).wk (l' := -(3 * ((P2 : Int) - P1))) (h' := 3 * ((P2 : Int) - P1)) (by omega) (by omega)
  generalize Float64.add (Float64.sub (Float64.add c p) Float64.one) (Float64.add (Float64.add f1 wd) (Float64.add f2 (Float64.add (Float64.sub c (Float64.add c p)) p))) = z at *
  -- twice the root
  have T : Bd (Float64.mul (Float64.ofInt 2) h) (2 * (R1 : Int)) (2 * (R2 : Int)) 1049 := by
    have v2 := two_is.val
    have hQ0 := pw 1074
    refine mul_bd two_is.1 H.1 (by omega) (by omega) (by decide) ?_ ?_
    · rw [v2, Int.pow_add]
      have h1 := H.2.1
      generalize (2 : Int) ^ 1074 = Q at *
      generalize (2 : Int) ^ 1049 = P at *
      have hQ : 0 ≤ 2 * Q := by omega
      have := Int.mul_le_mul_of_nonneg_left h1 hQ
      have e : 2 * (R1 : Int) * (P * Q) = 2 * Q * (R1 * P) := by ac_rfl
      omega
    · rw [v2, Int.pow_add]
      have h1 := H.2.2
      generalize (2 : Int) ^ 1074 = Q at *
      generalize (2 : Int) ^ 1049 = P at *
      have hQ : 0 ≤ 2 * Q := by omega
      have := Int.mul_le_mul_of_nonneg_left h1 hQ
      have e : 2 * (R2 : Int) * (P * Q) = 2 * Q * (R2 * P) := by ac_rfl
      omega
  have hy : (2 : Int) ^ 1074 ≤ Float64.val (Float64.mul (Float64.ofInt 2) h) := by
    have h1 := T.2.1
    have e : (2 : Int) ^ 1074 = 2 ^ 25 * 2 ^ 1049 := by rw [← Int.pow_add]
    rw [e]
    have h2 : (2 : Int) ^ 25 ≤ 2 * (R1 : Int) := by
      have : (2 : Int) ^ 25 = 33554432 := by decide
      omega
    exact Int.le_trans (Int.mul_le_mul_of_nonneg_right h2 (Int.le_of_lt (pw 1049))) h1
  have hy0 : 0 < Float64.val (Float64.mul (Float64.ofInt 2) h) := Int.lt_of_lt_of_le (pw 1074) hy
  have V : Bd (Float64.div z (Float64.mul (Float64.ofInt 2) h)) (-(3 * ((P2 : Int) - P1))) (3 * ((P2 : Int) - P1)) 1024 := by
    have z1 := Int.mul_le_mul_of_nonneg_right Z.2.1 (Int.le_of_lt (pw 1074))
    have z2 := Int.mul_le_mul_of_nonneg_right Z.2.2 (Int.le_of_lt (pw 1074))
    have hc : 0 ≤ 3 * ((P2 : Int) - P1) * 2 ^ 1024 := Int.mul_nonneg (by omega) (Int.le_of_lt (pw 1024))
    have m := Int.mul_le_mul_of_nonneg_left hy hc
    refine div_bd Z.1 T.1 hy0 (by omega) (by omega) (by decide) ?_ ?_
    · rw [Int.neg_mul] at z1 ⊢
      rw [Int.neg_mul] at z1 ⊢
      omega
    · omega
  have H' : Bd h ((R1 : Int) * 2 ^ 25) ((R2 : Int) * 2 ^ 25) 1024 := Bd.up (j := 1024) 25 H
  have e25 : (2 : Int) ^ 25 = 33554432 := by decide
  rw [e25] at H' ⊢
  exact (H'.add V (by omega) (by omega) (by decide)).eq (by omega) (by omega)

/-- the scaled norm between bounds -/
theorem scaled_bd {x1 x2 big : UInt64} {n1 n2 j B R1 R2 S : Nat} (X1 : Is x1 n1 j) (X2 : Is x2 n2 j) (hE : (Float64.frexp big).2 = (B : Int) + j - 1074) (l1 : n1 < 2 ^ B) (l2 : n2 < 2 ^ B) (hB : B ≤ 25) (j1 : 1000 ≤ j) (j2 : j ≤ 1100)
    (hS : (n1 * n1 + n2 * n2) * 2 ^ (50 - 2 * B) = S) (b1 : R1 * R1 ≤ S) (b2 : S ≤ R2 * R2) (b3 : 2 ^ 24 ≤ R1) (b4 : R2 ≤ R1 + 1) (b5 : R1 ≤ R2) :
    Bd (scaledNorm [x1, x2] big) ((R1 : Int) * 2 ^ 25 - 3 * ((R2 * R2 : Nat) - (R1 * R1 : Nat) : Int)) ((R2 : Int) * 2 ^ 25 + 3 * ((R2 * R2 : Nat) - (R1 * R1 : Nat) : Int)) (j + B - 50) := by
  rw [scaledNorm_eq, hE]
  have Sc : Is (Float64.ldexp Float64.one (-((B : Int) + j - 1074))) 1 (2148 - B - j) := by
    have := ldexp_is (E := (B : Int) + j - 1074) (by omega) (by omega)
    have e : (1074 - ((B : Int) + j - 1074)).toNat = 2148 - B - j := by omega
    rw [e] at this
    exact this
  generalize Float64.ldexp Float64.one (-((B : Int) + j - 1074)) = sc at *
  have sq : ∀ n, n < 2 ^ B → n * n * 2 ^ (50 - 2 * B) < 2 ^ 50 := fun n hn => by
    have h1 := Nat.mul_lt_mul'' hn hn
    rw [← Nat.pow_add] at h1
    have h2 := Nat.mul_lt_mul_of_pos_right h1 (Nat.two_pow_pos (50 - 2 * B))
    rw [← Nat.pow_add] at h2
    have : B + B + (50 - 2 * B) = 50 := by omega
    rwa [this] at h2
  have s1 := sq n1 l1
  have s2 := sq n2 l2
  have lt25 : ∀ n, n < 2 ^ B → n < 2 ^ 25 := fun n hn => Nat.lt_of_lt_of_le hn (Nat.pow_le_pow_right (by decide) hB)
  have Y : ∀ (x : UInt64) (n : Nat), Is x n j → n < 2 ^ B → Is (Float64.mul x sc) n (1074 - B) := fun x n X hn => by
    have := mul_is (k := 1074 - B) X Sc (by have := lt25 n hn; omega) (by omega) (by omega)
    rw [Int.mul_one] at this
    exact this
  obtain ⟨A1, W1⟩ := dlMul_sq (Y x1 n1 X1 l1) l1 hB
  obtain ⟨A2, W2⟩ := dlMul_sq (Y x2 n2 X2 l2) l2 hB
  have hsum : n1 * n1 * 2 ^ (50 - 2 * B) + n2 * n2 * 2 ^ (50 - 2 * B) = S := by rw [← Nat.add_mul]; exact hS
  clear hS sq
  generalize n1 * n1 * 2 ^ (50 - 2 * B) = a1 at *
  generalize n2 * n2 * 2 ^ (50 - 2 * B) = a2 at *
  subst hsum
  dsimp only [List.foldl_cons, List.foldl_nil]
  generalize dlMul (Float64.mul x1 sc) (Float64.mul x1 sc) = d1 at *
  generalize dlMul (Float64.mul x2 sc) (Float64.mul x2 sc) = d2 at *
  have Z0 : Is (Float64.zero false) (0 : Int) 1024 := zero_bd _ _ (Int.le_refl _) (Int.le_refl _)
  have O := one_up
  have e50 : (2 : Int) ^ 50 = 1125899906842624 := by decide
  rw [e50] at O
  obtain ⟨C1, K1⟩ := fastSum_is O A1 (by decide) (by omega)
  have F1 := Z0.add W1 (by decide) (by decide) (by decide)
  have G1 := Z0.add K1 (by decide) (by decide) (by decide)
  generalize hc1 : (stepF (Float64.one, Float64.zero false, Float64.zero false) d1) = st1
  have C1' : Is st1.1 (1125899906842624 + (a1 : Int)) 1024 := by rw [← hc1]; exact C1
  have F1' : Is st1.2.1 0 1024 := by rw [← hc1]; exact F1
  have G1' : Is st1.2.2 0 1024 := by rw [← hc1]; exact G1
  clear hc1
  obtain ⟨C2, K2⟩ := fastSum_is C1' A2 (by omega) (by omega)
  have F2 := F1'.add W2 (by decide) (by decide) (by decide)
  have G2 := G1'.add K2 (by decide) (by decide) (by decide)
  generalize hc2 : stepF st1 d2 = st2
  have C2' : Is st2.1 (1125899906842624 + (a1 : Int) + a2) 1024 := by rw [← hc2]; exact C2
  have F2' : Is st2.2.1 0 1024 := by rw [← hc2]; exact F2
  have G2' : Is st2.2.2 0 1024 := by rw [← hc2]; exact G2
  clear hc2
  obtain ⟨c, f1, f2⟩ := st2
  dsimp only at C2' F2' G2' ⊢
  have P0 : Is (Float64.sub c Float64.one) ((a1 : Int) + a2) 1024 := (C2'.sub O (by omega) (by omega) (by decide)).eq (by omega) (by omega)
  have P1 : Is (Float64.add f1 f2) (0 : Int) 1024 := Bd.eq (F2'.add G2' (by decide) (by decide) (by decide)) (by decide) (by decide)
  have P2 : Is (Float64.add (Float64.sub c Float64.one) (Float64.add f1 f2)) ((a1 + a2 : Nat) : Int) 1024 := (P0.add P1 (by omega) (by omega) (by decide)).eq (by omega) (by omega)
  have R26 : R1 < 2 ^ 26 := by
    rcases Nat.lt_or_ge R1 (2 ^ 26) with q | q
    · exact q
    · have := Nat.mul_le_mul q q; omega
  have hpos : 0 < a1 + a2 := by
    have := Nat.mul_le_mul b3 b3
    omega
  have H : Bd (Float64.sqrt (Float64.add (Float64.sub c Float64.one) (Float64.add f1 f2))) R1 R2 1049 := sqrt_bd (k := 1049) P2 (by decide) hpos (by decide) (by omega) (by omega) b1 b2
  generalize Float64.sqrt (Float64.add (Float64.sub c Float64.one) (Float64.add f1 f2)) = h at *
  have fin := fix_bd (C2'.eq (l' := ((2 ^ 50 + (a1 + a2) : Nat) : Int)) (h' := ((2 ^ 50 + (a1 + a2) : Nat) : Int)) (by omega) (by omega)) F2' G2' H (by omega) b1 b2 b3 b4 b5
  generalize Float64.add h _ = r at *
  have hv : (1 : Int) * 2 ^ (2148 - B - j) = 2 ^ (2148 - B - j) := Int.one_mul _
  have vs := Sc.val
  have e : (2 : Int) ^ (j + B - 50) * 2 ^ (2148 - B - j) = 2 ^ 1024 * 2 ^ 1074 := by
    have ee : j + B - 50 + (2148 - B - j) = 1024 + 1074 := by omega
    rw [← Int.pow_add, ee, Int.pow_add]
  have r1 : R1 * R1 ≤ R2 * R2 := Nat.le_trans b1 b2
  have hd : R2 * R2 ≤ R1 * R1 + 2 ^ 28 := by
    have h1 : R2 * R2 ≤ (R1 + 1) * (R1 + 1) := Nat.mul_le_mul b4 b4
    have h2 : (R1 + 1) * (R1 + 1) = R1 * R1 + 2 * R1 + 1 := by rw [Nat.mul_add, Nat.add_mul]; omega
    omega
  have e25 : (2 : Int) ^ 25 = 33554432 := by decide
  rw [e25] at fin ⊢
  refine div_bd fin.1 Sc.1 (by rw [vs, hv]; exact pw _) (by omega) (by omega) (by omega) ?_ ?_
  · rw [vs, hv, Int.mul_assoc, e, ← Int.mul_assoc]
    exact Int.mul_le_mul_of_nonneg_right fin.2.1 (Int.le_of_lt (pw 1074))
  · rw [vs, hv, Int.mul_assoc, e, ← Int.mul_assoc]
    exact Int.mul_le_mul_of_nonneg_right fin.2.2 (Int.le_of_lt (pw 1074))
end Mine
end
section
open PySem
namespace Mine
open PySem.Float64 PySem.Builtin.Math

theorem not_inf {x : UInt64} (X : ∃ a m e, decode x = .fin a m e) : Float64.isInf x = false := by
  obtain ⟨a, m, e, d⟩ := X; unfold Float64.isInf; rw [d]
theorem not_nan {x : UInt64} (X : ∃ a m e, decode x = .fin a m e) : Float64.isNaN x = false := by
  obtain ⟨a, m, e, d⟩ := X; unfold Float64.isNaN; rw [d]
theorem isZero_is {x : UInt64} {n j : Nat} (X : Is x n j) : Float64.isZero x = decide (n = 0) := by
  have hv := X.val
  obtain ⟨⟨a, m, e, d⟩, _⟩ := X
  have h1 := val_natAbs d
  rw [hv, Int.natAbs_mul, Int.natAbs_natCast, Int.natAbs_pow] at h1
  have hp : 0 < (2 : Int).natAbs ^ j := Nat.two_pow_pos j
  have hq : 0 < 2 ^ (e + 1074).toNat := Nat.two_pow_pos _
  unfold Float64.isZero
  rw [d]
  cases m with
  | zero =>
    rw [Nat.zero_mul] at h1
    have : n = 0 := by
      rcases Nat.mul_eq_zero.mp h1 with q | q
      · exact q
      · omega
    subst this
    rfl
  | succ m =>
    have : n ≠ 0 := fun q => by
      subst q
      rw [Nat.zero_mul] at h1
      exact absurd h1 (Nat.ne_of_lt (Nat.mul_pos (Nat.succ_pos m) hq))
    simp [this]

theorem norm_scaled {x1 x2 : UInt64} {n1 n2 j : Nat} (X1 : Is x1 n1 j) (X2 : Is x2 n2 j) (h : 0 < max n1 n2) (l : max n1 n2 < 2 ^ 25) (j1 : 1000 ≤ j) :
    ∃ (big : UInt64) (B : Nat), vectorNorm [x1, x2] = scaledNorm [x1, x2] big ∧ (Float64.frexp big).2 = (B : Int) + j - 1074 ∧ n1 < 2 ^ B ∧ n2 < 2 ^ B ∧ B ≤ 25 ∧ 2 ^ (B - 1) ≤ max n1 n2 ∧ 1 ≤ B := by
  have M := maxMag X1 X2
  have hne : max n1 n2 ≠ 0 := by omega
  have E := frexp_exp M hne
  have hB : (max n1 n2).log2 < 25 := (Nat.log2_lt hne).mpr l
  have hlt : max n1 n2 < 2 ^ ((max n1 n2).log2 + 1) := Nat.lt_log2_self
  refine ⟨maxMagnitude [x1, x2], (max n1 n2).log2 + 1, ?_, by rw [E]; omega, by omega, by omega, by omega, Nat.log2_self_le hne, by omega⟩
  unfold vectorNorm
  dsimp only
  rw [if_neg (by rw [not_inf M.1]; decide), if_neg (by simp [not_nan X1.1, not_nan X2.1]), if_neg (by rw [isZero_is M]; simp; omega), if_neg (by rw [E]; omega)]

/-- whole sides, a whole diagonal -/
theorem norm_whole {x1 x2 : UInt64} {n1 n2 n3 j : Nat} (X1 : Is x1 n1 j) (X2 : Is x2 n2 j) (l1 : n1 < 2 ^ 25) (l2 : n2 < 2 ^ 25) (j1 : 1000 ≤ j) (j2 : j ≤ 1100) (e : n1 * n1 + n2 * n2 = n3 * n3) :
    Is (vectorNorm [x1, x2]) n3 j := by
  rcases Nat.eq_zero_or_pos (max n1 n2) with h | h
  · have M := maxMag X1 X2
    have z1 : n1 = 0 := by omega
    have z2 : n2 = 0 := by omega
    subst z1 z2
    have z3 : n3 = 0 := by
      rcases Nat.eq_zero_or_pos n3 with q | q
      · exact q
      · have := Nat.mul_pos q q; omega
    subst z3
    have hv : vectorNorm [x1, x2] = maxMagnitude [x1, x2] := by
      unfold vectorNorm
      dsimp only
      rw [if_neg (by rw [not_inf M.1]; decide), if_neg (by simp [not_nan X1.1, not_nan X2.1]), if_pos (by rw [isZero_is M]; simp)]
    rw [hv]
    exact M
  · obtain ⟨big, B, hv, hE, b1, b2, hB, hlo, hB1⟩ := norm_scaled X1 X2 h (by omega) j1
    have hS : (n1 * n1 + n2 * n2) * 2 ^ (50 - 2 * B) = n3 * 2 ^ (25 - B) * (n3 * 2 ^ (25 - B)) := by
      rw [e]
      have : 50 - 2 * B = (25 - B) + (25 - B) := by omega
      rw [this, Nat.pow_add]
      generalize (2 : Nat) ^ (25 - B) = P
      ac_rfl
    have hn3 : max n1 n2 ≤ n3 := by
      rcases Nat.lt_or_ge n3 (max n1 n2) with q | q
      · exfalso
        have h1 := Nat.mul_self_lt_mul_self q
        rcases Nat.le_total n1 n2 with c | c
        · rw [Nat.max_eq_right c] at h1; have := Nat.zero_le (n1 * n1); omega
        · rw [Nat.max_eq_left c] at h1; have := Nat.zero_le (n2 * n2); omega
      · exact q
    have hR : 2 ^ 24 ≤ n3 * 2 ^ (25 - B) := by
      have h1 := Nat.mul_le_mul_right (2 ^ (25 - B)) (Nat.le_trans hlo hn3)
      rw [← Nat.pow_add] at h1
      have : B - 1 + (25 - B) = 24 := by omega
      rwa [this] at h1
    have F := scaled_bd X1 X2 hE b1 b2 hB j1 j2 hS (Nat.le_refl _) (Nat.le_refl _) hR (Nat.le_succ _) (Nat.le_refl _)
    rw [hv]
    have hval : ((n3 * 2 ^ (25 - B) : Nat) : Int) * 2 ^ 25 * 2 ^ (j + B - 50) = (n3 : Int) * 2 ^ j := by
      rw [Int.natCast_mul, Int.natCast_pow, Int.mul_assoc, Int.mul_assoc]
      congr 1
      show (2 : Int) ^ (25 - B) * (2 ^ 25 * 2 ^ (j + B - 50)) = 2 ^ j
      rw [← Int.pow_add, ← Int.pow_add]
      congr 1
      omega
    have F' := F.eq (l' := ((n3 * 2 ^ (25 - B) : Nat) : Int) * 2 ^ 25) (h' := ((n3 * 2 ^ (25 - B) : Nat) : Int) * 2 ^ 25) (by rw [Int.sub_self]; omega) (by rw [Int.sub_self]; omega)
    exact Is.mk F'.1 (by rw [← hval]; exact Is.val F')

/-- a diagonal that is no whole number lies above a smaller side -/
theorem norm_above {x1 x2 : UInt64} {n1 n2 a j : Nat} (X1 : Is x1 n1 j) (X2 : Is x2 n2 j) (l1 : n1 < 2 ^ 25) (l2 : n2 ≤ n1) (h0 : 0 < n1) (j1 : 1000 ≤ j) (j2 : j ≤ 1100) (e : a * 2 ^ 25 < n1 * (2 ^ 25 - 12)) :
    (∃ s m e, decode (vectorNorm [x1, x2]) = .fin s m e) ∧ (a : Int) * 2 ^ j < Float64.val (vectorNorm [x1, x2]) := by
  have hm : max n1 n2 = n1 := Nat.max_eq_left l2
  obtain ⟨big, B, hv, hE, b1, b2, hB, hlo, hB1⟩ := norm_scaled X1 X2 (by omega) (by omega) j1
  rw [hm] at hlo
  generalize hS : (n1 * n1 + n2 * n2) * 2 ^ (50 - 2 * B) = S
  obtain ⟨q1, q2⟩ := isqrt_spec S
  generalize isqrt S = R at q1 q2
  have hSl : n1 * 2 ^ (25 - B) * (n1 * 2 ^ (25 - B)) ≤ S := by
    have h1 : n1 * n1 * 2 ^ (50 - 2 * B) ≤ S := by rw [← hS]; exact Nat.mul_le_mul_right _ (by omega)
    refine Nat.le_trans (Nat.le_of_eq ?_) h1
    have : 50 - 2 * B = (25 - B) + (25 - B) := by omega
    rw [this, Nat.pow_add]
    generalize (2 : Nat) ^ (25 - B) = P
    ac_rfl
  have hRn : n1 * 2 ^ (25 - B) ≤ R := by
    rcases Nat.lt_or_ge R (n1 * 2 ^ (25 - B)) with q | q
    · exfalso
      have := Nat.mul_le_mul q q
      have h2 : (R + 1) * (R + 1) ≤ n1 * 2 ^ (25 - B) * (n1 * 2 ^ (25 - B)) := this
      omega
    · exact q
  have hR : 2 ^ 24 ≤ R := by
    have h1 := Nat.mul_le_mul_right (2 ^ (25 - B)) hlo
    rw [← Nat.pow_add] at h1
    have : B - 1 + (25 - B) = 24 := by omega
    rw [this] at h1
    omega
  have F := scaled_bd X1 X2 hE b1 b2 hB j1 j2 hS q1 (Nat.le_of_lt q2) hR (Nat.le_refl _) (Nat.le_succ _)
  rw [hv]
  refine ⟨F.1, Int.lt_of_lt_of_le ?_ F.2.1⟩
  have hsq : (R + 1) * (R + 1) = R * R + 2 * R + 1 := by rw [Nat.mul_add, Nat.add_mul]; omega
  have hp : (a : Int) * 2 ^ j = (a : Int) * 2 ^ 25 * 2 ^ (25 - B) * 2 ^ (j + B - 50) := by
    rw [Int.mul_assoc, Int.mul_assoc, ← Int.pow_add, ← Int.pow_add]
    congr 2
    omega
  rw [hp]
  refine Int.mul_lt_mul_of_pos_right ?_ (pw _)
  have k1 : n1 * 2 ^ (25 - B) * (2 ^ 25 - 12) ≤ R * (2 ^ 25 - 12) := Nat.mul_le_mul_right _ hRn
  have k2 : a * 2 ^ 25 * 2 ^ (25 - B) < n1 * (2 ^ 25 - 12) * 2 ^ (25 - B) := Nat.mul_lt_mul_of_pos_right e (Nat.two_pow_pos _)
  have k3 : n1 * (2 ^ 25 - 12) * 2 ^ (25 - B) = n1 * 2 ^ (25 - B) * (2 ^ 25 - 12) := by
    generalize (2 : Nat) ^ (25 - B) = P; generalize (2 : Nat) ^ 25 - 12 = T; ac_rfl
  have k4 : ((a * 2 ^ 25 * 2 ^ (25 - B) : Nat) : Int) = (a : Int) * 2 ^ 25 * 2 ^ (25 - B) := by
    rw [Int.natCast_mul, Int.natCast_mul, Int.natCast_pow, Int.natCast_pow]; rfl
  rw [← k4, hsq]
  have e25 : (2 : Int) ^ 25 = 33554432 := by decide
  rw [e25]
  obtain ⟨Y, hY⟩ : ∃ Y, Y = a * 2 ^ 25 * 2 ^ (25 - B) := ⟨_, rfl⟩
  obtain ⟨RR, hRR⟩ : ∃ RR, RR = R * R := ⟨_, rfl⟩
  rw [← hY] at k2 ⊢
  rw [← hRR]
  have k5 : (2 ^ 25 - 12 : Nat) = 33554420 := by decide
  rw [k5] at k1 k2 k3
  clear hY hRR hp k4 q1 q2 hSl F hsq e hS
  omega
end Mine
end
section
open PySem
namespace Mine
open PySem.Float64 PySem.Builtin.Math

/-- what a NormalDist of the law holds: mean q, spread r * u, in units 2 ^ (j - 1074); n bounds the mean, r is a box's side -/
structure V (μ σ : UInt64) (q : Int) (n r u j : Nat) : Prop where
  m : Is μ q j
  s : Is σ ((r * u : Nat) : Int) j
  hq : q.natAbs ≤ n * 2 ^ 40
  hr : r ≤ 1105
  hu : u ≤ 2 ^ 14
  j1 : 1066 ≤ j
  j2 : j ≤ 1074

theorem V.lt {μ σ : UInt64} {q : Int} {n r u j : Nat} (h : V μ σ q n r u j) : r * u < 2 ^ 25 := by
  have := Nat.mul_le_mul h.hr h.hu; omega
theorem decode_z : decode 0 = .fin false 0 (-1074) := by with_unfolding_all rfl
theorem zero_is (j : Nat) : Is 0 (0 : Int) j := by
  refine Is.mk ⟨_, _, _, decode_z⟩ ?_
  rw [Int.zero_mul]
  have := val_eq decode_z
  rw [this]
  simp [sgn]
theorem not_lt_zero {σ : UInt64} {k j : Nat} (h : Is σ (k : Int) j) : ¬ ((Float64.cmp σ 0 == some Ordering.lt) = true) := by
  rw [h.cmp (zero_is j)]
  intro hc
  have h1 : compare (k : Int) 0 = .lt := by simpa using hc
  have := Int.compare_eq_lt.mp h1
  omega
theorem abs_nat {σ : UInt64} {k j : Nat} (h : Is σ (k : Int) j) : Is (Float64.abs σ) (k : Int) j := h.abs

theorem pyth_mul {r1 r2 r3 : Nat} (u : Nat) (e : r1 * r1 + r2 * r2 = r3 * r3) : r1 * u * (r1 * u) + r2 * u * (r2 * u) = r3 * u * (r3 * u) := by
  have h : ∀ a : Nat, a * u * (a * u) = a * a * (u * u) := fun a => by ac_rfl
  rw [h, h, h, ← Nat.add_mul, e]

theorem V.add {μ σ μ' σ' : UInt64} {q q' : Int} {n n' r r' r3 u j : Nat} (h : V μ σ q n r u j) (h' : V μ' σ' q' n' r' u j) (e : r * r + r' * r' = r3 * r3) (h3 : r3 ≤ 1105) (hn : n + n' ≤ 64) :
    V (Float64.add μ μ') (vectorNorm [Float64.abs σ, Float64.abs σ']) (q + q') (n + n') r3 u j := by
  have b1 := h.hq
  have b2 := h'.hq
  have hb : (q + q').natAbs ≤ (n + n') * 2 ^ 40 := by rw [Nat.add_mul]; omega
  have hb2 : (n + n') * 2 ^ 40 ≤ 64 * 2 ^ 40 := Nat.mul_le_mul_right _ hn
  have j1 := h.j1
  have j2 := h.j2
  exact ⟨h.m.add h'.m (by omega) (by omega) (by omega), norm_whole (abs_nat h.s) (abs_nat h'.s) h.lt h'.lt (by omega) (by omega) (pyth_mul u e), hb, h3, h.hu, j1, j2⟩
theorem V.sub {μ σ μ' σ' : UInt64} {q q' : Int} {n n' r r' r3 u j : Nat} (h : V μ σ q n r u j) (h' : V μ' σ' q' n' r' u j) (e : r * r + r' * r' = r3 * r3) (h3 : r3 ≤ 1105) (hn : n + n' ≤ 64) :
    V (Float64.sub μ μ') (vectorNorm [Float64.abs σ, Float64.abs σ']) (q - q') (n + n') r3 u j := by
  have b1 := h.hq
  have b2 := h'.hq
  have hb : (q - q').natAbs ≤ (n + n') * 2 ^ 40 := by rw [Nat.add_mul]; omega
  have hb2 : (n + n') * 2 ^ 40 ≤ 64 * 2 ^ 40 := Nat.mul_le_mul_right _ hn
  have j1 := h.j1
  have j2 := h.j2
  exact ⟨h.m.sub h'.m (by omega) (by omega) (by omega), norm_whole (abs_nat h.s) (abs_nat h'.s) h.lt h'.lt (by omega) (by omega) (pyth_mul u e), hb, h3, h.hu, j1, j2⟩
theorem V.neg {μ σ : UInt64} {q : Int} {n r u j : Nat} (h : V μ σ q n r u j) : V (Float64.neg μ) σ (-q) n r u j :=
  ⟨h.m.neg, h.s, by have := h.hq; omega, h.hr, h.hu, h.j1, h.j2⟩
theorem V.mul {μ σ : UInt64} {q k : Int} {n r u j : Nat} (h : V μ σ q n r u j) (hk : k.natAbs ≤ 8) (hu : u ≤ 2 ^ 11) (hn : n ≤ 7) :
    V (Float64.mul μ (Float64.ofInt k)) (Float64.mul σ (Float64.abs (Float64.ofInt k))) (k * q) (n * 8) r (u * k.natAbs) j := by
  have hK := is_ofInt (i := k) (by omega)
  have b1 := h.hq
  have hb : (k * q).natAbs ≤ n * 8 * 2 ^ 40 := by
    rw [Int.natAbs_mul]
    have := Nat.mul_le_mul hk b1
    have e : 8 * (n * 2 ^ 40) = n * 8 * 2 ^ 40 := by rw [← Nat.mul_assoc, Nat.mul_comm 8 n]
    omega
  have hb2 : n * 8 * 2 ^ 40 ≤ 7 * 8 * 2 ^ 40 := Nat.mul_le_mul_right _ (Nat.mul_le_mul_right _ hn)
  have hu2 : u * k.natAbs ≤ 2 ^ 14 := by have := Nat.mul_le_mul hu hk; omega
  have j1 := h.j1
  have j2 := h.j2
  have hrk : r * u * k.natAbs < 2 ^ 25 := by
    rw [Nat.mul_assoc]
    have := Nat.mul_le_mul h.hr hu2; omega
  refine ⟨?_, ?_, hb, h.hr, hu2, j1, j2⟩
  · rw [Int.mul_comm k q] at hb ⊢
    exact mul_is h.m hK (by omega) (by omega) (by omega)
  · have e : ((r * (u * k.natAbs) : Nat) : Int) = ((r * u : Nat) : Int) * (k.natAbs : Int) := by rw [← Nat.mul_assoc, Int.natCast_mul (r * u)]
    rw [e]
    refine mul_is h.s hK.abs ?_ (by omega) (by omega)
    rw [← Int.natCast_mul, Int.natAbs_natCast]; omega

/-- a quotient by a number below 0 -/
theorem div_neg_bd {x y : UInt64} {lo hi : Int} {k : Nat} (X : ∃ a m e, decode x = .fin a m e) (Y : ∃ a m e, decode y = .fin a m e) (hy : val y < 0) (a : lo.natAbs < 2 ^ 53) (b : hi.natAbs < 2 ^ 53) (hk : k ≤ 2045)
    (h1 : lo * 2 ^ k * -val y ≤ -(val x * 2 ^ 1074)) (h2 : -(val x * 2 ^ 1074) ≤ hi * 2 ^ k * -val y) : Bd (Float64.div x y) lo hi k := by
  obtain ⟨a1, m1, e1, d1⟩ := X
  obtain ⟨a2, m2, e2, d2⟩ := Y
  have hm : m2 ≠ 0 := fun q => by subst q; have := val_natAbs d2; rw [Nat.zero_mul] at this; omega
  have ha2 : a2 = true := by
    cases a2 with
    | true => rfl
    | false => have := val_sgn d2; unfold sgn at this; simp at this; omega
  have c : (((val y).natAbs : Nat) : Int) = -val y := by omega
  refine core (v := -(val x * 2 ^ 1074)) (div_right d1 d2 hm) (by omega) ?_ a b hk ?_ ?_
  · subst ha2
    have e : (a1 != true) = !a1 := by cases a1 <;> rfl
    rw [e, sgn_not, sgn_mul, ← val_sgn d1, Int.natCast_pow]
    rfl
  · rw [c]; exact h1
  · rw [c]; exact h2

theorem pow_le8 {i : Nat} (hi : i ≤ 8) : (2 : Nat) ^ i ≤ 256 := Nat.pow_le_pow_right (n := 2) (by decide) hi
theorem div_pow {μ : UInt64} {q : Int} {i : Nat} (h : Is μ q 1074) (hq : q.natAbs < 2 ^ 53) (hi : i ≤ 8) : Is (Float64.div μ (Float64.ofInt (-(2 ^ i : Nat)))) (-q) (1074 - i) := by
  have hp := pow_le8 hi
  have hp0 : 0 < 2 ^ i := Nat.two_pow_pos i
  have Y := is_ofInt (i := -((2 ^ i : Nat) : Int)) (by omega)
  have hv := Y.val
  have hx := h.val
  have e : (2 : Int) ^ 1074 = 2 ^ (1074 - i) * ((2 ^ i : Nat) : Int) := by
    rw [Int.natCast_pow]
    have e1 : (2 : Int) ^ 1074 = 2 ^ (1074 - i + i) := by congr 1; omega
    rw [e1, Int.pow_add]; rfl
  have key : -q * 2 ^ (1074 - i) * -Float64.val (Float64.ofInt (-((2 ^ i : Nat) : Int))) = -(Float64.val μ * 2 ^ 1074) := by
    rw [hv, hx]
    simp only [Int.neg_mul, Int.neg_neg]
    rw [← Int.mul_assoc, Int.mul_assoc q, ← e]
  refine div_neg_bd h.1 Y.1 ?_ (by omega) (by omega) (by omega) (Int.le_of_eq key) (Int.le_of_eq key.symm)
  rw [hv, Int.neg_mul]
  have := Int.mul_pos (show (0 : Int) < ((2 ^ i : Nat) : Int) by omega) (pw 1074)
  omega
theorem div_pow_abs {σ : UInt64} {q : Int} {i : Nat} (h : Is σ q 1074) (hq : q.natAbs < 2 ^ 53) (hi : i ≤ 8) : Is (Float64.div σ (Float64.abs (Float64.ofInt (-(2 ^ i : Nat))))) q (1074 - i) := by
  have hp := pow_le8 hi
  have hp0 : 0 < 2 ^ i := Nat.two_pow_pos i
  have Y0 := (is_ofInt (i := -((2 ^ i : Nat) : Int)) (by omega)).abs
  have Y : Is (Float64.abs (Float64.ofInt (-((2 ^ i : Nat) : Int)))) ((2 ^ i : Nat) : Int) 1074 := Y0.eq (by omega) (by omega)
  have hv := Y.val
  have hx := h.val
  have e : (2 : Int) ^ 1074 = 2 ^ (1074 - i) * ((2 ^ i : Nat) : Int) := by
    rw [Int.natCast_pow]
    have e1 : (2 : Int) ^ 1074 = 2 ^ (1074 - i + i) := by congr 1; omega
    rw [e1, Int.pow_add]; rfl
  have key : q * 2 ^ (1074 - i) * Float64.val (Float64.abs (Float64.ofInt (-((2 ^ i : Nat) : Int)))) = Float64.val σ * 2 ^ 1074 := by
    rw [hv, hx, ← Int.mul_assoc, Int.mul_assoc q, ← e]
  refine div_bd h.1 Y.1 ?_ (by omega) (by omega) (by omega) (Int.le_of_eq key) (Int.le_of_eq key.symm)
  rw [hv]
  exact Int.mul_pos (by omega) (pw 1074)
theorem V.div {μ σ : UInt64} {q : Int} {n r u i : Nat} (h : V μ σ q n r u 1074) (hn : n ≤ 64) (hi : i ≤ 8) :
    V (Float64.div μ (Float64.ofInt (-(2 ^ i : Nat)))) (Float64.div σ (Float64.abs (Float64.ofInt (-(2 ^ i : Nat))))) (-q) n r u (1074 - i) := by
  have hb2 : n * 2 ^ 40 ≤ 64 * 2 ^ 40 := Nat.mul_le_mul_right _ hn
  have b1 := h.hq
  have := h.lt
  exact ⟨div_pow h.m (by omega) hi, div_pow_abs h.s (by omega) hi, by omega, h.hr, h.hu, by omega, by omega⟩
/-- an int by a power of two -/
theorem frac_is {a : Int} {i : Nat} (ha : a.natAbs < 2 ^ 53) (hi : i ≤ 8) : Is (Float64.ofFrac (decide (a < 0) != decide (((2 ^ i : Nat) : Int) < 0)) a.natAbs ((2 ^ i : Nat) : Int).natAbs) a (1074 - i) := by
  have hp0 : 0 < 2 ^ i := Nat.two_pow_pos i
  have e0 : decide (((2 ^ i : Nat) : Int) < 0) = false := decide_eq_false (by omega)
  have e1 : (decide (a < 0) != false) = decide (a < 0) := by cases decide (a < 0) <;> rfl
  rw [e0, e1, Int.natAbs_natCast]
  have R : Right (Float64.ofFrac (decide (a < 0)) a.natAbs (2 ^ i)) (decide (a < 0)) (a.natAbs * 2 ^ 1074) (2 ^ i) := ofFrac_right hp0 rfl hp0
  have e : (2 : Int) ^ 1074 = 2 ^ (1074 - i) * ((2 ^ i : Nat) : Int) := by
    rw [Int.natCast_pow]
    have e1 : (2 : Int) ^ 1074 = 2 ^ (1074 - i + i) := by congr 1; omega
    rw [e1, Int.pow_add]; rfl
  have key : a * 2 ^ (1074 - i) * ((2 ^ i : Nat) : Int) = a * 2 ^ 1074 := by rw [e, Int.mul_assoc]
  refine core (v := a * 2 ^ 1074) R hp0 ?_ ha ha (by omega) (Int.le_of_eq key) (Int.le_of_eq key.symm)
  rw [sgn_mul, Int.natCast_pow, ← sgn_self]
  rfl
theorem V.mk0 {l : Int} {r u : Nat} (hl : l.natAbs ≤ 2 ^ 40) (hr : r ≤ 1105) (hu : u ≤ 2 ^ 14) : V (Float64.ofInt l) (Float64.ofInt ((r * u : Nat) : Int)) l 1 r u 1074 := by
  have := Nat.mul_le_mul hr hu
  exact ⟨is_ofInt (by omega), is_ofInt (by omega), by omega, hr, hu, by decide, by decide⟩
theorem eq_true {x y : UInt64} {p q : Int} {j : Nat} (X : Is x p j) (Y : Is y q j) (e : p = q) : (Float64.cmp x y == some Ordering.eq) = true := by
  rw [X.cmp Y, e]; simp

/-- what is added can't be taken away where y's spread is not 0 -/
theorem back_eq {σ1 σ2 σ : UInt64} {q1 q2 q : Int} {μ1 μ2 μ : UInt64} {n1 n2 n a b c u : Nat} (h1 : V μ1 σ1 q1 n1 c u 1074) (h2 : V μ2 σ2 q2 n2 b u 1074) (h : V μ σ q n a u 1074) (hu : 0 < u)
    (e : c * c = a * a + b * b) (hb : b = 0 ∨ (b ≤ c ∧ a * 2 ^ 25 < c * (2 ^ 25 - 12))) : (Float64.cmp (vectorNorm [Float64.abs σ1, Float64.abs σ2]) σ == some Ordering.eq) = decide (b = 0) := by
  rcases Nat.eq_zero_or_pos b with z | z
  · subst z
    have hca : c = a := by
      rw [Nat.mul_zero, Nat.add_zero] at e
      rcases Nat.lt_trichotomy c a with g | g | g
      · have := Nat.mul_self_lt_mul_self g; omega
      · exact g
      · have := Nat.mul_self_lt_mul_self g; omega
    have W := norm_whole (abs_nat h1.s) (abs_nat h2.s) h1.lt h2.lt (by decide) (by decide) (n3 := c * u) (by simp)
    rw [eq_true W h.s (by rw [hca])]
    rfl
  · have hb' := hb.resolve_left (by omega)
    have hc0 : 0 < c := by omega
    have A := norm_above (a := a * u) (abs_nat h1.s) (abs_nat h2.s) h1.lt (Nat.mul_le_mul_right u hb'.1) (Nat.mul_pos hc0 hu) (by decide) (by decide) (by
      have := Nat.mul_lt_mul_of_pos_right hb'.2 hu
      have e1 : a * u * 2 ^ 25 = a * 2 ^ 25 * u := by ac_rfl
      have e2 : c * u * (2 ^ 25 - 12) = c * (2 ^ 25 - 12) * u := by ac_rfl
      omega)
    obtain ⟨⟨s, m, ee, d⟩, hlt⟩ := A
    have hv := h.s.val
    obtain ⟨⟨s', m', e', d'⟩, _⟩ := h.s
    rw [← hv] at hlt
    rw [cmp_right d d', Int.compare_eq_gt.mpr hlt]
    have : decide (b = 0) = false := decide_eq_false (by omega)
    rw [this]
    rfl
end Mine
end
section
open PySem PySem.W PyProof.Rows PySem.Calls
set_option maxRecDepth 100000
namespace Mine
theorem kind_hypot : builtinKind "math.hypot" = none := by decide +kernel
theorem plain_hypot : plainId "math.hypot" = true := by decide +kernel
theorem entry_hypot : entryFor table "math.hypot" = some Builtin.«math.hypot» := entryFor_of_fast (by kernel_rfl)
theorem args_hypot (a b : Value) : argsOk "math.hypot" ⟨[a, b], []⟩ := by unfold argsOk; kernel_rfl
theorem call_hypot {prog : Program} {w : World} {A : Around} {E : Value → Shared → Prop} {s : Shared} {x y : UInt64} {t u : Tok} {Q : Value → Shared → Prop}
    (h : Q (.float (Builtin.Math.vectorNorm [Float64.abs x, Float64.abs y]) s.toks) { s with toks := s.toks + 1 }) :
    wpAny (model prog w) A (call (.builtin "math.hypot") [.float x t, .float y u]) Q E s := by
  refine call_function_entry kind_hypot plain_hypot entry_hypot (args_hypot _ _) ?_
  exact fun _ _ _ => ⟨_, rfl, h⟩
end Mine
end
section
open PySem PySem.W PyProof.Rows PySem.Calls
set_option maxRecDepth 100000
set_option maxHeartbeats 4000000
namespace Mine
theorem int_mul_inst (k : Int) (t : Tok) (x C dx : Addr) (sl : Array (Option Value)) :
    Meets (Builtin.«int.__mul__» ⟨[.int k t, .ref x], []⟩) (fun _ R s => s.heap.get? x = some { cls := .ref C, dict := some dx, data := .plain, slots := sl } ∧ R (.ok (.ret Value.notImplemented)) s) :=
  .of_wp fun prog w A R s h => by obtain ⟨hp, g, d, tk, os⟩ := s; obtain ⟨hl, h⟩ := h; wp_walk; exact ⟨_, rfl, h⟩

section
variable {prog : Program} {w : World} {A : Around} {E : Value → Shared → Prop} {s : Shared} {K : Frag} {x C L f f' dx : Addr} {h₀ : Heap} {m : Str → Option Value} {ox : Obj} {od : Option Obj} {sl : Array (Option Value)}
theorem mulR {k : Int} {t : Tok} {Q : Value → Shared → Prop} (FR : Fr h₀ L s.heap m) (X₀ : K.In h₀) (I : InstAt s.heap x { cls := .ref C, dict := some dx, data := .plain, slots := sl } C od)
    (hc : selfFirst K C = true) (hm : findIn K (.ref C) (PySem.dunder "mul") = some (some (.ref f'))) (hs : findIn K (.ref C) (dunderR "mul") = some (some (.ref f))) (hf : isFn K (.ref f) = true)
    (hsub : subIn K (.ref C) (.type "int") = some false)
    (h : wpAny (model prog w) A (call (.ref f) [.ref x, .int k t]) (W.CmpBack Q) E s) : wpAny (model prog w) A (binaryOp .Mult (.int k t) (.ref x)) Q E s := by
  have X := X₀.keeps FR.keep
  obtain ⟨cd, rest, hcd, hmro⟩ := ksp_first hc
  have one := ksp_try X I hs hf h
  have hx := I.at_
  have hTU : (Value.type "int" == Value.ref C) = false := Bool.eq_false_iff.mpr fun q => by cases beq_iff_eq.mp q
  unfold binaryOp
  refine wpAny_holding (wpAny_bind ?_)
  show wpAny _ _ (binaryOp1 "mul" _ _) _ _ _
  simp only [binaryOp1]
  refine wpAny_bind (wpAny_typeOf (typeIs_int s k t) (wpAny_bind (I.type.here (wpAny_bind (wpAny_of_eq PySem.F.fills_int_mul ?_)))))
  simp only [hTU, Bool.false_eq_true, if_false]
  refine wpAny_bind ((fills_K X hcd hmro hm).here ?_)
  simp only [Bool.and_self, if_true]
  refine wpAny_bind ((looks_subIn X hsub).here ?_)
  simp only [Bool.false_eq_true, if_false, Bool.not_false, Bool.and_self, if_true]
  have L7 : Looks (model prog w) s.heap (numberSlotInPython (.type "int") "mul") false := Looks.of_pure rfl
  refine wpAny_bind (L7.here ?_)
  simp only [Bool.false_eq_true, if_false]
  refine wpAny_bind (wpAny_tryMethod_declines (typeIs_int s k t) PySem.F.slot_int_mul (call_meets PySem.F.slot_int_mul (typeIs_int s k t) PySem.F.entry_int_mul (PySem.F.args_int_mul_2 _ _) (int_mul_inst k t x C dx sl) ⟨hx, rfl, ?_⟩))
  refine wpAny_bind (wpAny_mono one (fun r s' hr' => ?_) fun _ _ e => e)
  obtain ⟨v, rfl, hq⟩ := hr'
  exact wpAny_bind (wpAny_rule (wpAny_pure (wpAny_pure hq)))

theorem ne_slot (self : Value) : bindSpecial (.builtin "object.__ne__") self = pure (.builtin "object.__ne__", [self]) :=
  (Slot.of (T := "object") (name := "__ne__") (owner := "object") (n := "__ne__") (by rw [typeLookup_type, builtinLookup_eq_fast]; kernel_rfl) (by decide +kernel) (by decide +kernel) (by decide +kernel)
    (.inl (by decide +kernel)) (by rw [isSubtype_type]; kernel_rfl)).bind self

theorem ne_K {y : Addr} {oy : Obj} {od' : Option Obj} {Q : Value → Shared → Prop} (hu : A.units + 1 < cLine) (FR : Fr h₀ L s.heap m) (X₀ : K.In h₀) (I : InstAt s.heap x ox C od) (J : InstAt s.heap y oy C od')
    (hn : findIn K (.ref C) "__ne__" = some (some (.builtin "object.__ne__"))) (hs : findIn K (.ref C) "__eq__" = some (some (.ref f))) (hf : isFn K (.ref f) = true) (hsub : subIn K (.ref C) (.type "object") = some true)
    (h : wpAny (model prog w) A.in1 (call (.ref f) [.ref x, .ref y]) (fun v s' => ∃ b, v = .bool b ∧ Q (.bool (!b)) s') E s) : wpAny (model prog w) A (compareOp .NotEq (.ref x) (.ref y)) Q E s := by
  have X := X₀.keeps FR.keep
  have hi : Looks (model prog w) s.heap (isInstance (.ref x) (.type "object")) true := I.type.andThen (looks_subIn X hsub)
  have inner : ∀ {R : Fin → Shared → Prop} {E' : Value → Shared → Prop}, (∀ (v : Value) (s' : Shared), (∃ b, v = Value.bool b ∧ Q (Value.bool (!b)) s') → ∃ b, v = Value.bool b ∧ R (.done (.ret (Value.bool (!b)))) s') → (∀ e s', E e s' → E' e s') →
      wpAny (model prog w) A.in1 (Builtin.«object.__ne__» ⟨[.ref x, .ref y], []⟩) R E' s := by
    intro R E' hR hE
    unfold Builtin.«object.__ne__»
    repeat (first
      | with_reducible refine wpAny_cRoomFor hu ?_
      | (refine wpAny_bind (m := callSpecialIfBound? (.ref x) (Str.ofString "__eq__") [.ref y])
          (ifBound_K X I hs hf (wpAny_mono h (fun v s' hv => by
            obtain ⟨b, rfl, hq⟩ := hR v s' hv
            repeat (first | exact hq | exact wpAny_pure hq | exact wpAny_truthy_bool hq | (refine wpAny_bind (m := truthy (.bool _)) (wpAny_truthy_bool ?_)) | wp_step)) hE)))
      | wp_step)
  have one : wpAny (model prog w) A (tryCompare (.ref x) "__ne__" (.ref y)) (fun r s' => ∃ v, r = some v ∧ Q v s') E s := by
    unfold tryCompare
    refine wpAny_bind (m := callSpecialIfBound? (.ref x) "__ne__" [.ref y]) ?_
    simp only [callSpecialIfBound?, bindSpecialIfBound?]
    refine wpAny_holding (wpAny_bind (wpAny_bind (wpAny_bind (I.type.here ((looks_findIn X hn).here ?_)))))
    refine wpAny_bind (wpAny_askSetting (wpAny_ite ?_))
    rw [ne_slot]
    have ck : builtinKind "object.__ne__" = some .slot := by decide +kernel
    have cs : splitId "object.__ne__" = some ("object", "__ne__") := by decide +kernel
    have cp : plainId "object.__ne__" = true := by decide +kernel
    have ca : argsOk "object.__ne__" ⟨[.ref x, .ref y], []⟩ := by unfold argsOk; kernel_rfl
    have fin : wpAny (model prog w) A (call (.builtin "object.__ne__") [.ref x, .ref y] >>= fun v => pure (some v)) (fun a s' =>
        wpAny (model prog w) A (match a with | some Value.notImplemented => pure none | none => pure none | some r => pure (some r)) (fun r s' => ∃ v, r = some v ∧ Q v s') E s') E s := by
      refine wpAny_bind (wpAny_call (codeAny_call_builtin cp PySem.F.cmpEntry_ne (check_slot ck cs hi ca (inner (fun v s' hv => ?_) fun _ _ e => e))))
      obtain ⟨b, rfl, hq⟩ := hv
      exact ⟨b, rfl, wpAny_pure (wpAny_pure ⟨_, rfl, hq⟩)⟩
    split
    · exact wpAny_bind (wpAny_pure (wpAny_pure fin))
    · exact wpAny_tryCatch (wpAny_bind (wpAny_pure (wpAny_pure fin)))
  unfold compareOp richCompare
  simp only [oneThing_ref]
  refine wpAny_holding (wpAny_bind (wpAny_cRoomFor (Nat.lt_of_succ_lt hu) ?_))
  refine wpAny_bind (I.type.here (wpAny_bind (J.type.here ?_)))
  rw [show (Value.ref C != Value.ref C) = false from by simp]
  simp only [Bool.false_eq_true, if_false]
  refine wpAny_bind (wpAny_pure ?_)
  simp only [Bool.false_eq_true, if_false]
  refine wpAny_bind (wpAny_mono one (fun r s' z => ?_) fun _ _ e => e)
  obtain ⟨v, rfl, hq⟩ := z
  exact wpAny_pure hq
end
end Mine
end
section
open PySem PySem.W PyProof.Rows PySem.Calls
set_option maxRecDepth 100000
namespace Mine
theorem fits53 {k : Int} (hk : k.natAbs < 2 ^ 53) : k.natAbs < 2 ^ 1023 := Nat.lt_of_lt_of_le hk (Nat.pow_le_pow_right (by decide) (by decide))
theorem not_over53 {k : Int} (hk : k.natAbs < 2 ^ 53) : ¬ Flt.Over k := fun h => by
  have h1 := Flt.inf_of_over h
  rw [not_inf (is_ofInt hk).1] at h1
  cases h1
section
variable {prog : Program} {w : World} {A : Around} {E : Value → Shared → Prop} {s : Shared} {Q : Value → Shared → Prop} {a : UInt64} {k : Int} {t u : Tok}
theorem op_div_fi (hk : k.natAbs < 2 ^ 53) (hz : k ≠ 0) (h : Q (.float (Float64.div a (Float64.ofInt k)) s.toks) { s with toks := s.toks + 1 }) : wpAny (model prog w) A (binaryOp .Div (.float a t) (.int k u)) Q E s :=
  AutoFloatOps.truediv_fi_2 (Flt.fin_of_fits (not_over53 hk)) (fun x => hz ((Flt.isZero_ofInt k).mp x)) h
theorem op_mul_fi (hk : k.natAbs < 2 ^ 53) (h : Q (.float (Float64.mul a (Float64.ofInt k)) s.toks) { s with toks := s.toks + 1 }) : wpAny (model prog w) A (binaryOp .Mult (.float a t) (.int k u)) Q E s :=
  mul_fi_fits (fits53 hk) h
theorem op_fabs_i (hA : A.handled = none) (hk : k.natAbs < 2 ^ 53) (h : Q (.float (Float64.abs (Float64.ofInt k)) (s.toks + 1)) { s with toks := s.toks + 1 + 1 }) : wpAny (model prog w) A (call (.builtin "math.fabs") [.int k t]) Q E s :=
  Flt.call_fabs_int hA (fun c => absurd c (not_over53 hk)) fun _ => h
theorem op_float_i (hk : k.natAbs < 2 ^ 53) (h : Q (.float (Float64.ofInt k) s.toks) { s with toks := s.toks + 1 }) : wpAny (model prog w) A (call (.type "float") [.int k t]) Q E s :=
  call_float_int_fits (fits53 hk) h
theorem op_div_ii {b : Int} (hA : A.handled = none) (hk : k.natAbs < 2 ^ 53) (hb : b ≠ 0) (h : Q (.float (Float64.ofFrac (decide (k < 0) != decide (b < 0)) k.natAbs b.natAbs) s.toks) { s with toks := s.toks + 1 }) : wpAny (model prog w) A (binaryOp .Div (.int k t) (.int b u)) Q E s :=
  Flt.div_ii_fits hA (fits53 hk) (fun c => absurd c hb) fun _ _ => h
end
end Mine
end
section
open PySem PySem.W PyProof.Rows
set_option Elab.async false
set_option maxRecDepth 100000
set_option maxHeartbeats 8000000
namespace Mine
theorem ne_lt2 {l : List (Addr × Obj)} {d x : Addr} (h : ∀ p ∈ l, p.1 < d) (h2 : d < x) : ∀ p ∈ l, p.1 ≠ x := fun p hp => Nat.ne_of_lt (Nat.lt_trans (h p hp) h2)
theorem ne_lt1 {l : List (Addr × Obj)} {d : Addr} (h : ∀ p ∈ l, p.1 < d) : ∀ p ∈ l, p.1 ≠ d := fun p hp => Nat.ne_of_lt (h p hp)
/-- a NormalDist laid out -/
abbrev nd (dx : Addr) (mu sg : UInt64) (t u : Tok) : Obj := { cls := .ref 270, dict := some dx, data := .plain, slots := #[some (.float mu t), some (.float sg u)] }
abbrev lawEnv (nms : List (Str × NameKind)) (L fa : Addr) (cd : Value) : Env := envOf (Str.ofString "law") { kind := ScopeKind.function, names := nms, isGenerator := false, isCoroutine := false } L fa cd
theorem news_drop2 {h₀ h : Heap} {L : Addr} {p q : Addr × Obj} {l : List (Addr × Obj)} (N : News h₀ L h (p :: q :: l)) : News h₀ L h (p :: l) := fun r hr => N r (by
  rcases List.mem_cons.mp hr with e | e
  · exact e ▸ .head _
  · exact .tail _ (.tail _ e))
local macro_rules | `(tactic| k_mem) => `(tactic| assumption)
local macro_rules | `(tactic| k_all) => `(tactic| first | exact ne_lt2 (by assumption) (by assumption) | exact ne_lt1 (by assumption))
local macro_rules | `(tactic| walk_at "call builtin:math.hypot") => `(tactic| (refine call_hypot ?_))
local macro_rules | `(tactic| walk_at "binaryOp Mult int ref") => `(tactic| (k_here; (with_reducible show wpAny _ _ (binaryOp Operator.Mult (Value.int _ _) (Value.ref _)) _ _ _); k_dflt (refine' mulR ?F ?X ?I ?c ?m ?s ?f ?u ?_; (case F => k_asm); (case X => k_asm); (case I => k_inst); (case c => k_is); (case m => k_is); (case s => k_is); (case f => k_is); (case u => k_is); k_whole)))
local macro_rules | `(tactic| walk_at "compareOp NotEq ref ref") => `(tactic| (k_here; k_dflt (refine' ne_K ?h ?F ?X ?I ?J ?n ?s ?f ?u ?_; (case h => k_units); (case F => k_asm); (case X => k_asm); (case I => k_inst); (case J => k_inst); (case n => k_is); (case s => k_is); (case f => k_is); (case u => k_is); k_whole)))
local macro_rules | `(tactic| walk_at "binaryOp Div float int") => `(tactic| (refine op_div_fi (by assumption) (by assumption) ?_))
local macro_rules | `(tactic| walk_at "binaryOp Mult float int") => `(tactic| (refine op_mul_fi (by assumption) ?_))
local macro_rules | `(tactic| walk_at "call builtin:math.fabs cons nil") => `(tactic| ((with_reducible show wpAny _ _ (call _ [Value.int _ _]) _ _ _); refine op_fabs_i rfl (by assumption) ?_))
local macro_rules | `(tactic| walk_at "call type:float") => `(tactic| ((with_reducible show wpAny _ _ (call _ [Value.int _ _]) _ _ _); refine op_float_i (by assumption) ?_))
local macro_rules | `(tactic| walk_at "ite") => `(tactic| (refine' ite_pos ?c ?_; (case c => assumption)))
local macro_rules | `(tactic| walk_at "ite") => `(tactic| (refine' ite_neg ?c ?_; (case c => assumption)))

section
variable {w : World} {mg mb : Str → Option Value} {mean : ExcName → Option Value} {h₀ : Heap} {fa L : Addr} {cd : Value} {nms : List (Str × NameKind)} {m : Str → Option Value} {news : List (Addr × Obj)} {s : Shared}
  {Q : Value → Shared → Prop} {E : Value → Shared → Prop}
theorem add_c {x y dx dy : Addr} {a b c d : UInt64} {t u t' u' : Tok}
    (KX : (Mine.pk.heap_1 w.params).In h₀) (T : Top Mine.vw (looseW Mine.vw [Str.ofString "NormalDist"]) mean mg mb h₀)
    (B : Below callerA h₀ [] h₀) (F : Fr h₀ L s.heap m) (N : News h₀ L s.heap news)
    (hx : (x, nd dx a b t u) ∈ news) (hdx : (dx, dictOf [] 0) ∈ news) (hy : (y, nd dy c d t' u') ∈ news) (hdy : (dy, dictOf [] 0) ∈ news)
    (hb : ¬ ((Float64.cmp (Builtin.Math.vectorNorm [Float64.abs b, Float64.abs d]) 0 == some Ordering.lt) = true))
    (h : ∀ x dx h' tk t' u', Fr h₀ L h' m → News h₀ L h' ((x, nd dx (Float64.add a c) (Builtin.Math.vectorNorm [Float64.abs b, Float64.abs d]) t' u') :: (dx, dictOf [] 0) :: news) → Q (.ref x) { s with heap := h', toks := tk }) :
    wpAny (model PySem.Challenge.rw_io0021_01.row.prog w) (callerA.deeper (lawEnv nms L fa cd)) (binaryOp .Add (.ref x) (.ref y)) Q E s := by
  obtain ⟨hp, gs, dr, tks, os⟩ := s
  dsimp only at F N h
  revert KX; k_fill; intro KX
  k_steps
  all_goals exact h _ _ _ _ _ _ (by assumption) (by assumption)
theorem sub_c {x y dx dy : Addr} {a b c d : UInt64} {t u t' u' : Tok}
    (KX : (Mine.pk.heap_1 w.params).In h₀) (T : Top Mine.vw (looseW Mine.vw [Str.ofString "NormalDist"]) mean mg mb h₀)
    (B : Below callerA h₀ [] h₀) (F : Fr h₀ L s.heap m) (N : News h₀ L s.heap news)
    (hx : (x, nd dx a b t u) ∈ news) (hdx : (dx, dictOf [] 0) ∈ news) (hy : (y, nd dy c d t' u') ∈ news) (hdy : (dy, dictOf [] 0) ∈ news)
    (hb : ¬ ((Float64.cmp (Builtin.Math.vectorNorm [Float64.abs b, Float64.abs d]) 0 == some Ordering.lt) = true))
    (h : ∀ x dx h' tk t' u', Fr h₀ L h' m → News h₀ L h' ((x, nd dx (Float64.sub a c) (Builtin.Math.vectorNorm [Float64.abs b, Float64.abs d]) t' u') :: (dx, dictOf [] 0) :: news) → Q (.ref x) { s with heap := h', toks := tk }) :
    wpAny (model PySem.Challenge.rw_io0021_01.row.prog w) (callerA.deeper (lawEnv nms L fa cd)) (binaryOp .Sub (.ref x) (.ref y)) Q E s := by
  obtain ⟨hp, gs, dr, tks, os⟩ := s
  dsimp only at F N h
  revert KX; k_fill; intro KX
  k_steps
  all_goals exact h _ _ _ _ _ _ (by assumption) (by assumption)
theorem neg_c {x dx : Addr} {a b : UInt64} {t u : Tok}
    (KX : (Mine.pk.heap_1 w.params).In h₀) (T : Top Mine.vw (looseW Mine.vw [Str.ofString "NormalDist"]) mean mg mb h₀)
    (B : Below callerA h₀ [] h₀) (F : Fr h₀ L s.heap m) (N : News h₀ L s.heap news)
    (hx : (x, nd dx a b t u) ∈ news) (hdx : (dx, dictOf [] 0) ∈ news)
    (hb : ¬ ((Float64.cmp (b) 0 == some Ordering.lt) = true))
    (h : ∀ x dx h' tk t' u', Fr h₀ L h' m → News h₀ L h' ((x, nd dx (Float64.neg a) (b) t' u') :: (dx, dictOf [] 0) :: news) → Q (.ref x) { s with heap := h', toks := tk }) :
    wpAny (model PySem.Challenge.rw_io0021_01.row.prog w) (callerA.deeper (lawEnv nms L fa cd)) (unaryOp .USub (.ref x)) Q E s := by
  obtain ⟨hp, gs, dr, tks, os⟩ := s
  dsimp only at F N h
  revert KX; k_fill; intro KX
  k_steps
  all_goals exact h _ _ _ _ _ _ (by assumption) (by assumption)
theorem ctor_ff {a b : UInt64} {t u : Tok}
    (KX : (Mine.pk.heap_1 w.params).In h₀) (T : Top Mine.vw (looseW Mine.vw [Str.ofString "NormalDist"]) mean mg mb h₀)
    (B : Below callerA h₀ [] h₀) (F : Fr h₀ L s.heap m) (N : News h₀ L s.heap news)
    (hb : ¬ ((Float64.cmp (b) 0 == some Ordering.lt) = true))
    (h : ∀ x dx h' tk t' u', Fr h₀ L h' m → News h₀ L h' ((x, nd dx (a) (b) t' u') :: (dx, dictOf [] 0) :: news) → Q (.ref x) { s with heap := h', toks := tk }) :
    wpAny (model PySem.Challenge.rw_io0021_01.row.prog w) (callerA.deeper (lawEnv nms L fa cd)) (call (.ref 270) [.float a t, .float b u] []) Q E s := by
  obtain ⟨hp, gs, dr, tks, os⟩ := s
  dsimp only at F N h
  revert KX; k_fill; intro KX
  k_steps
  all_goals exact h _ _ _ _ _ _ (by assumption) (by assumption)
theorem mul_c {x dx : Addr} {a b : UInt64} {t u : Tok} {k : Int} {kt : Tok}
    (KX : (Mine.pk.heap_1 w.params).In h₀) (T : Top Mine.vw (looseW Mine.vw [Str.ofString "NormalDist"]) mean mg mb h₀)
    (B : Below callerA h₀ [] h₀) (F : Fr h₀ L s.heap m) (N : News h₀ L s.heap news)
    (hx : (x, nd dx a b t u) ∈ news) (hdx : (dx, dictOf [] 0) ∈ news)
    (hk : k.natAbs < 2 ^ 53)
    (hb : ¬ ((Float64.cmp (Float64.mul b (Float64.abs (Float64.ofInt k))) 0 == some Ordering.lt) = true))
    (h : ∀ x dx h' tk t' u', Fr h₀ L h' m → News h₀ L h' ((x, nd dx (Float64.mul a (Float64.ofInt k)) (Float64.mul b (Float64.abs (Float64.ofInt k))) t' u') :: (dx, dictOf [] 0) :: news) → Q (.ref x) { s with heap := h', toks := tk }) :
    wpAny (model PySem.Challenge.rw_io0021_01.row.prog w) (callerA.deeper (lawEnv nms L fa cd)) (binaryOp .Mult (.int k kt) (.ref x)) Q E s := by
  obtain ⟨hp, gs, dr, tks, os⟩ := s
  dsimp only at F N h
  revert KX; k_fill; intro KX
  k_steps
  all_goals exact h _ _ _ _ _ _ (by assumption) (by assumption)
theorem div_c {x dx : Addr} {a b : UInt64} {t u : Tok} {k : Int} {kt : Tok}
    (KX : (Mine.pk.heap_1 w.params).In h₀) (T : Top Mine.vw (looseW Mine.vw [Str.ofString "NormalDist"]) mean mg mb h₀)
    (B : Below callerA h₀ [] h₀) (F : Fr h₀ L s.heap m) (N : News h₀ L s.heap news)
    (hx : (x, nd dx a b t u) ∈ news) (hdx : (dx, dictOf [] 0) ∈ news)
    (hk : k.natAbs < 2 ^ 53) (hk0 : k ≠ 0) (hfz : ¬ Float64.isZero (Float64.abs (Float64.ofInt k)) = true)
    (hb : ¬ ((Float64.cmp (Float64.div b (Float64.abs (Float64.ofInt k))) 0 == some Ordering.lt) = true))
    (h : ∀ x dx h' tk t' u', Fr h₀ L h' m → News h₀ L h' ((x, nd dx (Float64.div a (Float64.ofInt k)) (Float64.div b (Float64.abs (Float64.ofInt k))) t' u') :: (dx, dictOf [] 0) :: news) → Q (.ref x) { s with heap := h', toks := tk }) :
    wpAny (model PySem.Challenge.rw_io0021_01.row.prog w) (callerA.deeper (lawEnv nms L fa cd)) (binaryOp .Div (.ref x) (.int k kt)) Q E s := by
  obtain ⟨hp, gs, dr, tks, os⟩ := s
  dsimp only at F N h
  revert KX; k_fill; intro KX
  k_steps
  all_goals exact h _ _ _ _ _ _ (by assumption) (by assumption)
theorem ctor_ii {a b : Int} {t u : Tok}
    (KX : (Mine.pk.heap_1 w.params).In h₀) (T : Top Mine.vw (looseW Mine.vw [Str.ofString "NormalDist"]) mean mg mb h₀)
    (B : Below callerA h₀ [] h₀) (F : Fr h₀ L s.heap m) (N : News h₀ L s.heap news)
    (ha : a.natAbs < 2 ^ 53) (hbf : b.natAbs < 2 ^ 53) (hlt : ¬ ((Float64.cmpInt 0 b == some Ordering.gt) = true))
    (h : ∀ x dx h' tk t' u', Fr h₀ L h' m → News h₀ L h' ((x, nd dx (Float64.ofInt a) (Float64.ofInt b) t' u') :: (dx, dictOf [] 0) :: news) → Q (.ref x) { s with heap := h', toks := tk }) :
    wpAny (model PySem.Challenge.rw_io0021_01.row.prog w) (callerA.deeper (lawEnv nms L fa cd)) (call (.ref 270) [.int a t, .int b u] []) Q E s := by
  obtain ⟨hp, gs, dr, tks, os⟩ := s
  dsimp only at F N h
  revert KX; k_fill; intro KX
  k_steps
  all_goals exact h _ _ _ _ _ _ (by assumption) (by assumption)
theorem eq_c {x y dx dy : Addr} {a b c d : UInt64} {t u t' u' : Tok}
    (KX : (Mine.pk.heap_1 w.params).In h₀) (T : Top Mine.vw (looseW Mine.vw [Str.ofString "NormalDist"]) mean mg mb h₀)
    (B : Below callerA h₀ [] h₀) (F : Fr h₀ L s.heap m) (N : News h₀ L s.heap news)
    (hx : (x, nd dx a b t u) ∈ news) (hdx : (dx, dictOf [] 0) ∈ news) (hy : (y, nd dy c d t' u') ∈ news) (hdy : (dy, dictOf [] 0) ∈ news)
    (he : (Float64.cmp a c == some Ordering.eq) = true)
    (h : ∀ tk h', Fr h₀ L h' m → News h₀ L h' news → Q (.bool (Float64.cmp b d == some Ordering.eq)) { s with heap := h', toks := tk }) :
    wpAny (model PySem.Challenge.rw_io0021_01.row.prog w) (callerA.deeper (lawEnv nms L fa cd)) (compareOp .Eq (.ref x) (.ref y)) Q E s := by
  obtain ⟨hp, gs, dr, tks, os⟩ := s
  dsimp only at F N h
  revert KX; k_fill; intro KX
  k_steps
  all_goals exact h _ _ (by assumption) (by assumption)
theorem ne_c {x y dx dy : Addr} {a b c d : UInt64} {t u t' u' : Tok}
    (KX : (Mine.pk.heap_1 w.params).In h₀) (T : Top Mine.vw (looseW Mine.vw [Str.ofString "NormalDist"]) mean mg mb h₀)
    (B : Below callerA h₀ [] h₀) (F : Fr h₀ L s.heap m) (N : News h₀ L s.heap news)
    (hx : (x, nd dx a b t u) ∈ news) (hdx : (dx, dictOf [] 0) ∈ news) (hy : (y, nd dy c d t' u') ∈ news) (hdy : (dy, dictOf [] 0) ∈ news)
    (he : (Float64.cmp a c == some Ordering.eq) = true)
    (h : ∀ tk h', Fr h₀ L h' m → News h₀ L h' news → Q (.bool (!(Float64.cmp b d == some Ordering.eq))) { s with heap := h', toks := tk }) :
    wpAny (model PySem.Challenge.rw_io0021_01.row.prog w) (callerA.deeper (lawEnv nms L fa cd)) (compareOp .NotEq (.ref x) (.ref y)) Q E s := by
  obtain ⟨hp, gs, dr, tks, os⟩ := s
  dsimp only at F N h
  revert KX; k_fill; intro KX
  k_steps
  all_goals exact h _ _ (by assumption) (by assumption)
end
end Mine
end
section
open PySem PySem.W PyProof.Rows
set_option Elab.async false
set_option maxRecDepth 100000
set_option maxHeartbeats 8000000
namespace Mine
open PySem.Builtin.Math (vectorNorm)
/-- a whole diagonal -/
structure Py (r r' r3 : Nat) : Prop where
  e : r * r + r' * r' = r3 * r3
  l : r3 ≤ 1105
/-- how a, b and their diagonal lie -/
structure Gap (a b ab : Nat) : Prop where
  e : ab * ab = a * a + b * b
  l : b = 0 ∨ (b ≤ ab ∧ a * 2 ^ 25 < ab * (2 ^ 25 - 12))
/-- the sides of a box of the law -/
structure Box (a b c ab bc abc : Nat) : Prop where
  h : (a = 153 ∧ b = 104 ∧ c = 672 ∧ ab = 185 ∧ bc = 680 ∧ abc = 697) ∨ (a = 520 ∧ b = 117 ∧ c = 756 ∧ ab = 533 ∧ bc = 765 ∧ abc = 925) ∨ (a = 264 ∧ b = 448 ∧ c = 975 ∧ ab = 520 ∧ bc = 1073 ∧ abc = 1105) ∨ (a = 672 ∧ b = 104 ∧ c = 153 ∧ ab = 680 ∧ bc = 185 ∧ abc = 697) ∨ (a = 0 ∧ b = 20 ∧ c = 21 ∧ ab = 20 ∧ bc = 29 ∧ abc = 29) ∨ (a = 8 ∧ b = 0 ∧ c = 15 ∧ ab = 8 ∧ bc = 15 ∧ abc = 17) ∨ (a = 12 ∧ b = 35 ∧ c = 0 ∧ ab = 37 ∧ bc = 35 ∧ abc = 37) ∨ (a = 0 ∧ b = 0 ∧ c = 0 ∧ ab = 0 ∧ bc = 0 ∧ abc = 0)
theorem Box.facts {a b c ab bc abc : Nat} (h : Box a b c ab bc abc) : (a ≤ 1105 ∧ b ≤ 1105 ∧ c ≤ 1105 ∧ ab ≤ 1105 ∧ bc ≤ 1105 ∧ abc ≤ 1105) ∧ (Py a b ab ∧ Py b a ab ∧ Py b c bc ∧ Py c b bc ∧ Py ab c abc ∧ Py c ab abc ∧ Py a bc abc ∧ Py bc a abc) ∧
    Gap a b ab := by
  obtain ⟨h⟩ := h
  rcases h with h | h | h | h | h | h | h | h <;> (obtain ⟨rfl, rfl, rfl, rfl, rfl, rfl⟩ := h; exact ⟨by decide, ⟨⟨by decide, by decide⟩, ⟨by decide, by decide⟩, ⟨by decide, by decide⟩, ⟨by decide, by decide⟩, ⟨by decide, by decide⟩, ⟨by decide, by decide⟩, ⟨by decide, by decide⟩, ⟨by decide, by decide⟩⟩, ⟨by decide, by decide⟩⟩)

theorem box_item {prog : Program} {w : World} {A : Around} {E : Value → Shared → Prop} {s : Shared} {value slice : PySem.Expr} {h₀ : Heap} {L l t0 t1 t2 t3 t4 t5 t6 t7 : Addr} {rest : List (Addr × Obj)} {k : Int} {u : Tok} {Q : Value → Shared → Prop}
    {k00 k01 k02 k03 k04 k05 k10 k11 k12 k13 k14 k15 k20 k21 k22 k23 k24 k25 k30 k31 k32 k33 k34 k35 k40 k41 k42 k43 k44 k45 k50 k51 k52 k53 k54 k55 k60 k61 k62 k63 k64 k65 k70 k71 k72 k73 k74 k75 : Tok} (N : News h₀ L s.heap ((l, listOf #[Value.ref t0, Value.ref t1, Value.ref t2, Value.ref t3, Value.ref t4, Value.ref t5, Value.ref t6, Value.ref t7] 0) :: (t7, { cls := Value.type "tuple", data := Data.seq #[Value.int 0 k70, Value.int 0 k71, Value.int 0 k72, Value.int 0 k73, Value.int 0 k74, Value.int 0 k75] }) :: (t6, { cls := Value.type "tuple", data := Data.seq #[Value.int 12 k60, Value.int 35 k61, Value.int 0 k62, Value.int 37 k63, Value.int 35 k64, Value.int 37 k65] }) :: (t5, { cls := Value.type "tuple", data := Data.seq #[Value.int 8 k50, Value.int 0 k51, Value.int 15 k52, Value.int 8 k53, Value.int 15 k54, Value.int 17 k55] }) :: (t4, { cls := Value.type "tuple", data := Data.seq #[Value.int 0 k40, Value.int 20 k41, Value.int 21 k42, Value.int 20 k43, Value.int 29 k44, Value.int 29 k45] }) :: (t3, { cls := Value.type "tuple", data := Data.seq #[Value.int 672 k30, Value.int 104 k31, Value.int 153 k32, Value.int 680 k33, Value.int 185 k34, Value.int 697 k35] }) :: (t2, { cls := Value.type "tuple", data := Data.seq #[Value.int 264 k20, Value.int 448 k21, Value.int 975 k22, Value.int 520 k23, Value.int 1073 k24, Value.int 1105 k25] }) :: (t1, { cls := Value.type "tuple", data := Data.seq #[Value.int 520 k10, Value.int 117 k11, Value.int 756 k12, Value.int 533 k13, Value.int 765 k14, Value.int 925 k15] }) :: (t0, { cls := Value.type "tuple", data := Data.seq #[Value.int 153 k00, Value.int 104 k01, Value.int 672 k02, Value.int 185 k03, Value.int 680 k04, Value.int 697 k05] }) :: rest)) (b0 : 0 ≤ k) (b8 : k < 8)
    (h : ∀ (t : Addr) (a b c ab bc abc : Nat) (u0 u1 u2 u3 u4 u5 : Tok), Box a b c ab bc abc → News h₀ L s.heap ((t, { cls := Value.type "tuple", data := Data.seq #[Value.int ((a : Nat) : Int) u0, Value.int ((b : Nat) : Int) u1, Value.int ((c : Nat) : Int) u2, Value.int ((ab : Nat) : Int) u3, Value.int ((bc : Nat) : Int) u4, Value.int ((abc : Nat) : Int) u5] }) :: rest) → Q (.ref t) s)
    (hs : ∀ j u, subscripted slice false (.ref l) (.int j u) = operate [.ref l, .int j u] (getItem (.ref l) (.int j u)) := by intro _ _; with_unfolding_all rfl) :
    wpAny (model prog w) A (subscriptTail value slice (.ref l) (.int k u)) Q E s := by
  have hl : s.heap.IsList l #[Value.ref t0, Value.ref t1, Value.ref t2, Value.ref t3, Value.ref t4, Value.ref t5, Value.ref t6, Value.ref t7] := News.isList N (.head _)
  have hr : ∀ p ∈ rest, p ∈ ((l, listOf #[Value.ref t0, Value.ref t1, Value.ref t2, Value.ref t3, Value.ref t4, Value.ref t5, Value.ref t6, Value.ref t7] 0) :: (t7, { cls := Value.type "tuple", data := Data.seq #[Value.int 0 k70, Value.int 0 k71, Value.int 0 k72, Value.int 0 k73, Value.int 0 k74, Value.int 0 k75] }) :: (t6, { cls := Value.type "tuple", data := Data.seq #[Value.int 12 k60, Value.int 35 k61, Value.int 0 k62, Value.int 37 k63, Value.int 35 k64, Value.int 37 k65] }) :: (t5, { cls := Value.type "tuple", data := Data.seq #[Value.int 8 k50, Value.int 0 k51, Value.int 15 k52, Value.int 8 k53, Value.int 15 k54, Value.int 17 k55] }) :: (t4, { cls := Value.type "tuple", data := Data.seq #[Value.int 0 k40, Value.int 20 k41, Value.int 21 k42, Value.int 20 k43, Value.int 29 k44, Value.int 29 k45] }) :: (t3, { cls := Value.type "tuple", data := Data.seq #[Value.int 672 k30, Value.int 104 k31, Value.int 153 k32, Value.int 680 k33, Value.int 185 k34, Value.int 697 k35] }) :: (t2, { cls := Value.type "tuple", data := Data.seq #[Value.int 264 k20, Value.int 448 k21, Value.int 975 k22, Value.int 520 k23, Value.int 1073 k24, Value.int 1105 k25] }) :: (t1, { cls := Value.type "tuple", data := Data.seq #[Value.int 520 k10, Value.int 117 k11, Value.int 756 k12, Value.int 533 k13, Value.int 765 k14, Value.int 925 k15] }) :: (t0, { cls := Value.type "tuple", data := Data.seq #[Value.int 153 k00, Value.int 104 k01, Value.int 672 k02, Value.int 185 k03, Value.int 680 k04, Value.int 697 k05] }) :: rest) := fun p hp => .tail _ (.tail _ (.tail _ (.tail _ (.tail _ (.tail _ (.tail _ (.tail _ (.tail _ (hp)))))))))
  have go : ∀ (n : Nat) (t : Addr), k = (n : Int) → (#[Value.ref t0, Value.ref t1, Value.ref t2, Value.ref t3, Value.ref t4, Value.ref t5, Value.ref t6, Value.ref t7] : Array Value)[n]? = some (.ref t) → Q (.ref t) s → wpAny (model prog w) A (subscriptTail value slice (.ref l) (.int k u)) Q E s := by
    intro n t hk hx hq
    refine tail_any hl.typeIs slot_list_getitem.lookup (wpAny_getItem_list hl b0 (by omega) (x := .ref t) ?_ hq) (hs k u)
    subst hk
    simpa using hx
  have put : ∀ (t : Addr) (o : Obj), (t, o) ∈ ((l, listOf #[Value.ref t0, Value.ref t1, Value.ref t2, Value.ref t3, Value.ref t4, Value.ref t5, Value.ref t6, Value.ref t7] 0) :: (t7, { cls := Value.type "tuple", data := Data.seq #[Value.int 0 k70, Value.int 0 k71, Value.int 0 k72, Value.int 0 k73, Value.int 0 k74, Value.int 0 k75] }) :: (t6, { cls := Value.type "tuple", data := Data.seq #[Value.int 12 k60, Value.int 35 k61, Value.int 0 k62, Value.int 37 k63, Value.int 35 k64, Value.int 37 k65] }) :: (t5, { cls := Value.type "tuple", data := Data.seq #[Value.int 8 k50, Value.int 0 k51, Value.int 15 k52, Value.int 8 k53, Value.int 15 k54, Value.int 17 k55] }) :: (t4, { cls := Value.type "tuple", data := Data.seq #[Value.int 0 k40, Value.int 20 k41, Value.int 21 k42, Value.int 20 k43, Value.int 29 k44, Value.int 29 k45] }) :: (t3, { cls := Value.type "tuple", data := Data.seq #[Value.int 672 k30, Value.int 104 k31, Value.int 153 k32, Value.int 680 k33, Value.int 185 k34, Value.int 697 k35] }) :: (t2, { cls := Value.type "tuple", data := Data.seq #[Value.int 264 k20, Value.int 448 k21, Value.int 975 k22, Value.int 520 k23, Value.int 1073 k24, Value.int 1105 k25] }) :: (t1, { cls := Value.type "tuple", data := Data.seq #[Value.int 520 k10, Value.int 117 k11, Value.int 756 k12, Value.int 533 k13, Value.int 765 k14, Value.int 925 k15] }) :: (t0, { cls := Value.type "tuple", data := Data.seq #[Value.int 153 k00, Value.int 104 k01, Value.int 672 k02, Value.int 185 k03, Value.int 680 k04, Value.int 697 k05] }) :: rest) → News h₀ L s.heap ((t, o) :: rest) := fun t o hm p hp => by
    rcases List.mem_cons.mp hp with rfl | hp
    · exact N _ hm
    · exact N _ (hr p hp)
  have hcase : k = 0 ∨ k = 1 ∨ k = 2 ∨ k = 3 ∨ k = 4 ∨ k = 5 ∨ k = 6 ∨ k = 7 := by omega
  rcases hcase with e | e | e | e | e | e | e | e
  · exact go 0 t0 e rfl (h t0 153 104 672 185 680 697 _ _ _ _ _ _ ⟨.inl ⟨rfl, rfl, rfl, rfl, rfl, rfl⟩⟩ (put _ _ (.tail _ (.tail _ (.tail _ (.tail _ (.tail _ (.tail _ (.tail _ (.tail _ (.head _)))))))))))
  · exact go 1 t1 e rfl (h t1 520 117 756 533 765 925 _ _ _ _ _ _ ⟨.inr (.inl ⟨rfl, rfl, rfl, rfl, rfl, rfl⟩)⟩ (put _ _ (.tail _ (.tail _ (.tail _ (.tail _ (.tail _ (.tail _ (.tail _ (.head _))))))))))
  · exact go 2 t2 e rfl (h t2 264 448 975 520 1073 1105 _ _ _ _ _ _ ⟨.inr (.inr (.inl ⟨rfl, rfl, rfl, rfl, rfl, rfl⟩))⟩ (put _ _ (.tail _ (.tail _ (.tail _ (.tail _ (.tail _ (.tail _ (.head _)))))))))
  · exact go 3 t3 e rfl (h t3 672 104 153 680 185 697 _ _ _ _ _ _ ⟨.inr (.inr (.inr (.inl ⟨rfl, rfl, rfl, rfl, rfl, rfl⟩)))⟩ (put _ _ (.tail _ (.tail _ (.tail _ (.tail _ (.tail _ (.head _))))))))
  · exact go 4 t4 e rfl (h t4 0 20 21 20 29 29 _ _ _ _ _ _ ⟨.inr (.inr (.inr (.inr (.inl ⟨rfl, rfl, rfl, rfl, rfl, rfl⟩))))⟩ (put _ _ (.tail _ (.tail _ (.tail _ (.tail _ (.head _)))))))
  · exact go 5 t5 e rfl (h t5 8 0 15 8 15 17 _ _ _ _ _ _ ⟨.inr (.inr (.inr (.inr (.inr (.inl ⟨rfl, rfl, rfl, rfl, rfl, rfl⟩)))))⟩ (put _ _ (.tail _ (.tail _ (.tail _ (.head _))))))
  · exact go 6 t6 e rfl (h t6 12 35 0 37 35 37 _ _ _ _ _ _ ⟨.inr (.inr (.inr (.inr (.inr (.inr (.inl ⟨rfl, rfl, rfl, rfl, rfl, rfl⟩))))))⟩ (put _ _ (.tail _ (.tail _ (.head _)))))
  · exact go 7 t7 e rfl (h t7 0 0 0 0 0 0 _ _ _ _ _ _ ⟨.inr (.inr (.inr (.inr (.inr (.inr (.inr (⟨rfl, rfl, rfl, rfl, rfl, rfl⟩)))))))⟩ (put _ _ (.tail _ (.head _))))

theorem ints_at : ∀ {vs : List Value} {ns : List Int} {i : Nat}, IntsAre vs ns → i < ns.length → ∃ n t, vs[i]? = some (.int n t)
  | _, _, 0, .cons n t _, _ => ⟨n, t, rfl⟩
  | _, _, i + 1, .cons _ _ h, hi => ints_at (i := i) h (by simpa using hi)
/-- an int of the row, at an index that may lie below 0 -/
theorem row_item {prog : Program} {w : World} {A : Around} {E : Value → Shared → Prop} {s : Shared} {value slice : PySem.Expr} {l : Addr} {vs : List Value} {ns : List Int} {k : Int} {u : Tok} {Q : Value → Shared → Prop}
    (hl : s.heap.IsList l vs.toArray) (hi : IntsAre vs ns) (h1 : -(ns.length : Int) ≤ k) (h2 : k < (ns.length : Int)) (hb : ns.length < 2 ^ 60) (h : ∀ n t, Q (.int n t) s)
    (hs : ∀ j u, subscripted slice false (.ref l) (.int j u) = operate [.ref l, .int j u] (getItem (.ref l) (.int j u)) := by intro _ _; with_unfolding_all rfl) :
    wpAny (model prog w) A (subscriptTail value slice (.ref l) (.int k u)) Q E s := by
  have hlen := IntsAre.length hi
  have hsz : vs.toArray.size = ns.length := by rw [List.size_toArray]; exact hlen
  rcases Int.lt_or_le k 0 with c | c
  · obtain ⟨n, t, hx⟩ := ints_at (i := (k + ns.length).toNat) hi (by omega)
    refine tail_any hl.typeIs slot_list_getitem.lookup (wpAny_getItem_list_neg hl c (by rw [hsz]; exact h1) (by omega) (x := .int n t) ?_ (h n t)) (hs k u)
    rw [hsz]; simpa using hx
  · obtain ⟨n, t, hx⟩ := ints_at (i := k.toNat) hi (by omega)
    refine tail_any hl.typeIs slot_list_getitem.lookup (wpAny_getItem_list hl c (by omega) (x := .int n t) ?_ (h n t)) (hs k u)
    simpa using hx
theorem val_z : Float64.val 0 = 0 := (zero_is 0).val.trans (Int.zero_mul _)
theorem t_lo (v : Int) : 1 ≤ Int.fmod v 2048 + 1 := by rw [Int.fmod_eq_emod_of_nonneg v (by decide)]; omega
theorem t_hi (v : Int) : Int.fmod v 2048 + 1 ≤ 2048 := by rw [Int.fmod_eq_emod_of_nonneg v (by decide)]; omega
theorem t_nat (v : Int) : (Int.fmod v 2048 + 1).toNat ≤ 2 ^ 11 := by have := t_lo v; have := t_hi v; omega
theorem t_pos (v : Int) : 0 < (Int.fmod v 2048 + 1).toNat := by have := t_lo v; omega
theorem k_le (v : Int) : (Int.fmod v 17 - 8).natAbs ≤ 8 := by rw [Int.fmod_eq_emod_of_nonneg v (by decide)]; omega
theorem back_pos {σ1 σ2 : UInt64} {q1 q2 : Int} {μ1 μ2 : UInt64} {n1 n2 a b c u : Nat} (h1 : V μ1 σ1 q1 n1 c u 1074) (h2 : V μ2 σ2 q2 n2 b u 1074) (hu : 0 < u) (g : Gap a b c) : ¬ ((Float64.cmp (vectorNorm [Float64.abs σ1, Float64.abs σ2]) 0 == some Ordering.lt) = true) := by
  rcases Nat.eq_zero_or_pos b with z | z
  · subst z
    exact not_lt_zero (norm_whole (abs_nat h1.s) (abs_nat h2.s) h1.lt h2.lt (by decide) (by decide) (n3 := c * u) (by simp))
  · have hb' := g.l.resolve_left (by omega)
    obtain ⟨⟨s, m, ee, d⟩, hlt⟩ := norm_above (a := a * u) (abs_nat h1.s) (abs_nat h2.s) h1.lt (Nat.mul_le_mul_right u hb'.1) (Nat.mul_pos (by omega) hu) (by decide) (by decide) (by
      have := Nat.mul_lt_mul_of_pos_right hb'.2 hu
      have e1 : a * u * 2 ^ 25 = a * 2 ^ 25 * u := by ac_rfl
      have e2 : c * u * (2 ^ 25 - 12) = c * (2 ^ 25 - 12) * u := by ac_rfl
      omega)
    have h0 : (0 : Int) ≤ ((a * u : Nat) : Int) * 2 ^ 1074 := Int.mul_nonneg (by omega) (Int.le_of_lt (pw 1074))
    rw [Float64.cmp_right d decode_z, val_z]
    intro hc
    have h3 : compare (Float64.val (vectorNorm [Float64.abs σ1, Float64.abs σ2])) 0 = .lt := by simpa using hc
    have := Int.compare_eq_lt.mp h3
    exact absurd (Int.lt_of_le_of_lt h0 hlt) (Int.not_lt.mpr (Int.le_of_lt this))
theorem cmpInt_nat (k : Nat) : ¬ ((Float64.cmpInt 0 (k : Int) == some Ordering.gt) = true) := by
  rw [Float64.cmpInt_right decode_z, val_z]
  have hp := pw 1074
  obtain ⟨P, hP⟩ : ∃ P, P = (2 : Int) ^ 1074 := ⟨_, rfl⟩
  rw [← hP] at hp ⊢
  have h2 := Int.mul_nonneg (show (0 : Int) ≤ (k : Int) by omega) (Int.le_of_lt hp)
  intro hc
  have h1 : compare (0 : Int) ((k : Int) * P) = .gt := by simpa using hc
  have := Int.compare_eq_gt.mp h1
  omega
section
variable {w : World} {mg mb : Str → Option Value} {mean : ExcName → Option Value} {h₀ : Heap} {fa L : Addr} {cd : Value} {nms : List (Str × NameKind)} {m : Str → Option Value} {news : List (Addr × Obj)} {s : Shared}
  {Q : Value → Shared → Prop} {E : Value → Shared → Prop}
theorem add_v {x y dx dy : Addr} {a b c d : UInt64} {t u t' u' : Tok} {q q' : Int} {n n' r r' r3 z j : Nat}
    (KX : (Mine.pk.heap_1 w.params).In h₀) (T : Top Mine.vw (looseW Mine.vw [Str.ofString "NormalDist"]) mean mg mb h₀)
    (B : Below callerA h₀ [] h₀) (F : Fr h₀ L s.heap m) (N : News h₀ L s.heap news)
    (hx : (x, nd dx a b t u) ∈ news) (hdx : (dx, dictOf [] 0) ∈ news) (hy : (y, nd dy c d t' u') ∈ news) (hdy : (dy, dictOf [] 0) ∈ news)
    (v1 : V a b q n r z j) (v2 : V c d q' n' r' z j) (py : Py r r' r3) (hn : n + n' ≤ 64)
    (h : ∀ x dx h' tk t' u' μ σ, V μ σ (q + q') (n + n') r3 z j → Fr h₀ L h' m → News h₀ L h' ((x, nd dx μ σ t' u') :: (dx, dictOf [] 0) :: news) → Q (.ref x) { s with heap := h', toks := tk }) :
    wpAny (model PySem.Challenge.rw_io0021_01.row.prog w) (callerA.deeper (lawEnv nms L fa cd)) (binaryOp .Add (.ref x) (.ref y)) Q E s :=
  have W := v1.add v2 py.1 py.2 hn
  add_c KX T B F N hx hdx hy hdy (not_lt_zero W.s) fun x dx h' tk t' u' => h x dx h' tk t' u' _ _ W
theorem sub_v {x y dx dy : Addr} {a b c d : UInt64} {t u t' u' : Tok} {q q' : Int} {n n' r r' r3 z j : Nat}
    (KX : (Mine.pk.heap_1 w.params).In h₀) (T : Top Mine.vw (looseW Mine.vw [Str.ofString "NormalDist"]) mean mg mb h₀)
    (B : Below callerA h₀ [] h₀) (F : Fr h₀ L s.heap m) (N : News h₀ L s.heap news)
    (hx : (x, nd dx a b t u) ∈ news) (hdx : (dx, dictOf [] 0) ∈ news) (hy : (y, nd dy c d t' u') ∈ news) (hdy : (dy, dictOf [] 0) ∈ news)
    (v1 : V a b q n r z j) (v2 : V c d q' n' r' z j) (py : Py r r' r3) (hn : n + n' ≤ 64)
    (h : ∀ x dx h' tk t' u' μ σ, V μ σ (q - q') (n + n') r3 z j → Fr h₀ L h' m → News h₀ L h' ((x, nd dx μ σ t' u') :: (dx, dictOf [] 0) :: news) → Q (.ref x) { s with heap := h', toks := tk }) :
    wpAny (model PySem.Challenge.rw_io0021_01.row.prog w) (callerA.deeper (lawEnv nms L fa cd)) (binaryOp .Sub (.ref x) (.ref y)) Q E s :=
  have W := v1.sub v2 py.1 py.2 hn
  sub_c KX T B F N hx hdx hy hdy (not_lt_zero W.s) fun x dx h' tk t' u' => h x dx h' tk t' u' _ _ W
theorem neg_v {x dx : Addr} {a b : UInt64} {t u : Tok} {q : Int} {n r z j : Nat}
    (KX : (Mine.pk.heap_1 w.params).In h₀) (T : Top Mine.vw (looseW Mine.vw [Str.ofString "NormalDist"]) mean mg mb h₀)
    (B : Below callerA h₀ [] h₀) (F : Fr h₀ L s.heap m) (N : News h₀ L s.heap news)
    (hx : (x, nd dx a b t u) ∈ news) (hdx : (dx, dictOf [] 0) ∈ news)
    (v1 : V a b q n r z j)
    (h : ∀ x dx h' tk t' u' μ σ, V μ σ (-q) n r z j → Fr h₀ L h' m → News h₀ L h' ((x, nd dx μ σ t' u') :: (dx, dictOf [] 0) :: news) → Q (.ref x) { s with heap := h', toks := tk }) :
    wpAny (model PySem.Challenge.rw_io0021_01.row.prog w) (callerA.deeper (lawEnv nms L fa cd)) (unaryOp .USub (.ref x)) Q E s :=
  have W := v1.neg
  neg_c KX T B F N hx hdx (not_lt_zero W.s) fun x dx h' tk t' u' => h x dx h' tk t' u' _ _ W
theorem mul_v {x dx : Addr} {a b : UInt64} {t u : Tok} {q : Int} {n r z j : Nat} {k : Int} {kt : Tok}
    (KX : (Mine.pk.heap_1 w.params).In h₀) (T : Top Mine.vw (looseW Mine.vw [Str.ofString "NormalDist"]) mean mg mb h₀)
    (B : Below callerA h₀ [] h₀) (F : Fr h₀ L s.heap m) (N : News h₀ L s.heap news)
    (hx : (x, nd dx a b t u) ∈ news) (hdx : (dx, dictOf [] 0) ∈ news)
    (v1 : V a b q n r z j) (hk : k.natAbs ≤ 8) (hz : z ≤ 2 ^ 11) (hn : n ≤ 7)
    (h : ∀ x dx h' tk t' u' μ σ, V μ σ (k * q) (n * 8) r (z * k.natAbs) j → Fr h₀ L h' m → News h₀ L h' ((x, nd dx μ σ t' u') :: (dx, dictOf [] 0) :: news) → Q (.ref x) { s with heap := h', toks := tk }) :
    wpAny (model PySem.Challenge.rw_io0021_01.row.prog w) (callerA.deeper (lawEnv nms L fa cd)) (binaryOp .Mult (.int k kt) (.ref x)) Q E s :=
  have W := v1.mul hk hz hn
  mul_c KX T B F N hx hdx (by omega) (not_lt_zero W.s) fun x dx h' tk t' u' => h x dx h' tk t' u' _ _ W
theorem div_v {x dx : Addr} {a b : UInt64} {t u : Tok} {q : Int} {n r z i : Nat} {k : Int} {kt : Tok}
    (KX : (Mine.pk.heap_1 w.params).In h₀) (T : Top Mine.vw (looseW Mine.vw [Str.ofString "NormalDist"]) mean mg mb h₀)
    (B : Below callerA h₀ [] h₀) (F : Fr h₀ L s.heap m) (N : News h₀ L s.heap news)
    (hx : (x, nd dx a b t u) ∈ news) (hdx : (dx, dictOf [] 0) ∈ news)
    (v1 : V a b q n r z 1074) (hk : k = -((2 ^ i : Nat) : Int)) (hi : i ≤ 8) (hn : n ≤ 64)
    (h : ∀ x dx h' tk t' u' μ σ, V μ σ (-q) n r z (1074 - i) → Fr h₀ L h' m → News h₀ L h' ((x, nd dx μ σ t' u') :: (dx, dictOf [] 0) :: news) → Q (.ref x) { s with heap := h', toks := tk }) :
    wpAny (model PySem.Challenge.rw_io0021_01.row.prog w) (callerA.deeper (lawEnv nms L fa cd)) (binaryOp .Div (.ref x) (.int k kt)) Q E s :=
  by
  subst hk
  have W := v1.div hn hi
  have hp := pow_le8 hi
  have hp0 : 0 < 2 ^ i := Nat.two_pow_pos i
  have Z : Is (Float64.abs (Float64.ofInt (-((2 ^ i : Nat) : Int)))) ((2 ^ i : Nat) : Int) 1074 := ((is_ofInt (i := -((2 ^ i : Nat) : Int)) (by omega)).abs).eq (by omega) (by omega)
  exact div_c KX T B F N hx hdx (by omega) (by omega) (by rw [isZero_is Z]; simp) (not_lt_zero W.s) fun x dx h' tk t' u' => h x dx h' tk t' u' _ _ W
theorem sub_w {x y dx dy : Addr} {a b c d μx σx : UInt64} {t u t' u' : Tok} {q q' qx : Int} {n n' nx r r' ra z : Nat}
    (KX : (Mine.pk.heap_1 w.params).In h₀) (T : Top Mine.vw (looseW Mine.vw [Str.ofString "NormalDist"]) mean mg mb h₀)
    (B : Below callerA h₀ [] h₀) (F : Fr h₀ L s.heap m) (N : News h₀ L s.heap news)
    (hx : (x, nd dx a b t u) ∈ news) (hdx : (dx, dictOf [] 0) ∈ news) (hy : (y, nd dy c d t' u') ∈ news) (hdy : (dy, dictOf [] 0) ∈ news)
    (v1 : V a b q n r z 1074) (v2 : V c d q' n' r' z 1074) (g : Gap ra r' r) (vx : V μx σx qx nx ra z 1074) (hz : 0 < z) (hn : n + n' ≤ 64)
    (h : ∀ x dx h' tk t' u' μ σ, Is μ (q - q') 1074 → (Float64.cmp σ σx == some Ordering.eq) = decide (r' = 0) → Fr h₀ L h' m → News h₀ L h' ((x, nd dx μ σ t' u') :: (dx, dictOf [] 0) :: news) → Q (.ref x) { s with heap := h', toks := tk }) :
    wpAny (model PySem.Challenge.rw_io0021_01.row.prog w) (callerA.deeper (lawEnv nms L fa cd)) (binaryOp .Sub (.ref x) (.ref y)) Q E s :=
  by
  have b1 := v1.hq
  have b2 := v2.hq
  have hb2 : (n + n') * 2 ^ 40 ≤ 64 * 2 ^ 40 := Nat.mul_le_mul_right _ hn
  have hb3 : (n + n') * 2 ^ 40 = n * 2 ^ 40 + n' * 2 ^ 40 := Nat.add_mul _ _ _
  exact sub_c KX T B F N hx hdx hy hdy (back_pos v1 v2 hz g) fun x dx h' tk t' u' => h x dx h' tk t' u' _ _ (v1.m.sub v2.m (by omega) (by omega) (by decide)) (back_eq v1 v2 vx hz g.e g.l)
theorem ctor_v {l S : Int} {r : Nat} {t u : Tok}
    (KX : (Mine.pk.heap_1 w.params).In h₀) (T : Top Mine.vw (looseW Mine.vw [Str.ofString "NormalDist"]) mean mg mb h₀)
    (B : Below callerA h₀ [] h₀) (F : Fr h₀ L s.heap m) (N : News h₀ L s.heap news)
    (hl : l.natAbs ≤ 2 ^ 40) (hr : r ≤ 1105) (h0 : 1 ≤ S) (h2 : S ≤ 2048)
    (h : ∀ x dx h' tk t' u' μ σ, V μ σ l 1 r S.toNat 1074 → Fr h₀ L h' m → News h₀ L h' ((x, nd dx μ σ t' u') :: (dx, dictOf [] 0) :: news) → Q (.ref x) { s with heap := h', toks := tk }) :
    wpAny (model PySem.Challenge.rw_io0021_01.row.prog w) (callerA.deeper (lawEnv nms L fa cd)) (call (.ref 270) [.int l t, .int ((r : Int) * S) u] []) Q E s :=
  by
  obtain ⟨z, rfl⟩ := Int.eq_ofNat_of_zero_le (show 0 ≤ S by omega)
  have W := V.mk0 (l := l) (u := z) hl hr (by omega)
  have hz : ((z : Int)).toNat = z := rfl
  rw [hz] at h
  have e : (r : Int) * (z : Int) = ((r * z : Nat) : Int) := by rw [Int.natCast_mul]
  rw [e]
  have hlt := W.lt
  refine ctor_ii KX T B F N (by omega) (by omega) ?_ fun x dx h' tk t' u' => h x dx h' tk t' u' _ _ W
  exact cmpInt_nat _
end
end Mine
end
section
open PySem PySem.W PyProof.Rows
set_option Elab.async false
set_option maxRecDepth 100000
set_option maxHeartbeats 8000000
namespace Mine
theorem p40 : (2 : Int) ^ Int.toNat 40 = 1099511627776 := by decide
theorem small_a {x : Int} (h : (if x < 0 then -x else x) < 2 ^ Int.toNat 40) : x.natAbs ≤ 2 ^ 40 := by
  rw [p40] at h
  split at h <;> omega
theorem small_b (x : Int) : (Int.fmod x (2 ^ Int.toNat 40)).natAbs ≤ 2 ^ 40 := by
  rw [p40, Int.fmod_eq_emod_of_nonneg x (by decide)]
  omega
section
variable {w : World} {mg mb : Str → Option Value} {mean : ExcName → Option Value} {h₀ : Heap} {fa L : Addr} {cd : Value} {nms : List (Str × NameKind)} {m : Str → Option Value} {news : List (Addr × Obj)} {s : Shared}
  {Q : Value → Shared → Prop} {E : Value → Shared → Prop}
theorem mean_v {x : Int} {t : Tok} (KX : (Mine.pk.heap_1 w.params).In h₀) (T : Top Mine.vw (looseW Mine.vw [Str.ofString "NormalDist"]) mean mg mb h₀)
    (B : Below callerA h₀ [] h₀) (F : Fr h₀ L s.heap m) (N : News h₀ L s.heap news)
    (h : ∀ l t' tk h', l.natAbs ≤ 2 ^ 40 → Fr h₀ L h' m → News h₀ L h' news → Q (.int l t') { s with heap := h', toks := tk }) :
    wpAny (model PySem.Challenge.rw_io0021_01.row.prog w) (callerA.deeper (lawEnv nms L fa cd)) (call (.ref 288) [.int x t] []) Q E s := by
  obtain ⟨hp, gs, dr, tks, os⟩ := s
  dsimp only at F N h
  revert KX; k_fill; intro KX
  k_steps
  all_goals first
    | exact h _ _ _ _ (small_a (by assumption)) (by assumption) (by assumption)
    | exact h _ _ _ _ (small_b _) (by assumption) (by assumption)
end
end Mine
end
section
open PySem PySem.W PyProof.Rows PySem.Calls
set_option maxRecDepth 100000
set_option maxHeartbeats 4000000
namespace Mine
/-- what an item of the law's list says: the normal has the mean and the spread said -/
structure Good (μ σ : UInt64) (mean sp parts T : Int) : Prop where
  h : ∃ i : Nat, i ≤ 8 ∧ parts = ((2 ^ i : Nat) : Int) ∧ Is μ mean (1074 - i) ∧ Is σ (sp * T) (1074 - i)
  m : mean.natAbs < 2 ^ 53
  s0 : 0 ≤ sp
  s1 : sp ≤ 8840
  t0 : 1 ≤ T
  t1 : T ≤ 2048
abbrev ndO (dx : Addr) (mu sg : UInt64) (t u : Tok) : Obj := { cls := .ref 270, dict := some dx, data := .plain, slots := #[some (.float mu t), some (.float sg u)] }
abbrev tupO (x : Addr) (mean sp parts : Int) (a b c : Tok) : Obj := { cls := .type "tuple", data := .seq #[.ref x, .int mean a, .int sp b, .int parts c] }
structure ItemOk (led : List (Addr × Obj)) (T : Int) (v : Value) : Prop where
  h : ∃ (D x dx : Addr) (μ σ : UInt64) (t u a b c : Tok) (mean sp parts : Int), v = .ref D ∧ (D, tupO x mean sp parts a b c) ∈ led ∧ (x, ndO dx μ σ t u) ∈ led ∧ (dx, dictOf [] 0) ∈ led ∧ Good μ σ mean sp parts T
theorem item_ok {led : List (Addr × Obj)} {D x dx : Addr} {μ σ : UInt64} {t u a b c : Tok} {mean sp parts T : Int} (h1 : (D, tupO x mean sp parts a b c) ∈ led) (h2 : (x, ndO dx μ σ t u) ∈ led) (h3 : (dx, dictOf [] 0) ∈ led)
    (g : Good μ σ mean sp parts T) : ItemOk led T (.ref D) := ⟨D, x, dx, μ, σ, t, u, a, b, c, mean, sp, parts, rfl, h1, h2, h3, g⟩
structure TurnPost (h₀ : Heap) (L : Addr) (s : Shared) (led : List (Addr × Obj)) (stored : List Str) (m₀ : Str → Option Value) (f : Flow) (s' : Shared) : Prop where
  h : f = .next ∧ ∃ h' tk m', s' = { s with heap := h', toks := tk } ∧ Fr h₀ L h' m' ∧ News h₀ L h' led ∧ ∀ y, stored.contains y = false → m' y = m₀ y

section
variable {prog : Program} {w : World} {A : Around} {E : Value → Shared → Prop} {s : Shared} {env : Env} {h₀ : Heap} {target : PySem.Expr} {body : List Stmt} {Q : Flow → Shared → Prop}
theorem iter_asked {ax : Addr} {vs : List Value} {n : Nat} {m₀ : Str → Option Value} {news : List (Addr × Obj)} (stored : List Str) (T : Int)
    (hh : A.handled = none) (F : Fr h₀ env.locals s.heap m₀) (N : News h₀ env.locals s.heap news) (hm : (ax, listOf vs.toArray n) ∈ news) (hok : ∀ v ∈ vs, ItemOk news T v)
    (turn : ∀ (D x dx : Addr) (μ σ : UInt64) (t u a b c : Tok) (mean sp parts : Int) (o : Str → Option Value) (h : Heap) (tk : Nat) (led : List (Addr × Obj)), Good μ σ mean sp parts T →
      Fr h₀ env.locals h (fun y => if stored.contains y then o y else m₀ y) → News h₀ env.locals h ((D, tupO x mean sp parts a b c) :: (x, ndO dx μ σ t u) :: (dx, dictOf [] 0) :: led) →
      wpAny (model prog w) A (assign target env (.ref D)) (fun _ s₃ => wpAny (model prog w) A (execs body env) (TurnPost h₀ env.locals s led stored m₀) E s₃) E { s with heap := h, toks := tk })
    (done : ∀ (o : Str → Option Value) (h : Heap) (tk : Nat), Fr h₀ env.locals h (fun y => if stored.contains y then o y else m₀ y) → News h₀ env.locals h news → Q .next { s with heap := h, toks := tk }) :
    wpAny (model prog w) A (pyIter (.ref ax)) (fun it s₂ => TurnsAt prog w A h₀ env target body Q E it s₂) E s := by
  have same : ∀ {h : Heap} {m₁ : Str → Option Value}, (∀ y, stored.contains y = false → m₁ y = m₀ y) → Fr h₀ env.locals h m₁ → Fr h₀ env.locals h (fun y => if stored.contains y then m₁ y else m₀ y) := by
    intro h m₁ e F
    have em : (fun y => if stored.contains y then m₁ y else m₀ y) = m₁ := by
      funext y
      cases hc : stored.contains y with
      | true => simp
      | false => simp [e y hc]
    rw [em]
    exact F
  have hax := N _ hm
  have hl : s.heap.IsList ax vs.toArray := ⟨_, hax.1, rfl, n, rfl⟩
  have hlt : ax < s.heap.objs.size := Heap.lt_size hax.1
  have hne : ax ≠ s.heap.objs.size := Nat.ne_of_lt hlt
  refine wpAny_pyIter_list hl ?_
  let J : Nat → (Str → Option Value) → List (Addr × Obj) → Prop := fun _ m' news' => news' = news ∧ ∀ y, stored.contains y = false → m' y = m₀ y
  refine ⟨s.heap.objs.size, [s.heap.objs.size, ax], [s.heap.objs.size], _, _, _, _, m₀, news, J, rfl, KTurns.ofWalks (Walks.list hh s.heap.objs.size ax hne vs.toArray) fun i v s Q E st q => letGo_listiter st.1 q, ?_, ?_, ?_, ?_, F.push _, (fun p hp => ⟨Heap.get?_push_of_some _ (N p hp).1, (N p hp).2⟩), ⟨rfl, fun _ _ => rfl⟩, ?_, ?_⟩
  · intro hI
    rcases List.mem_cons.mp hI with e | hI
    · exact absurd F.ns.lt (e ▸ Nat.lt_irrefl _)
    · exact hax.2.1 (List.mem_singleton.mp hI).symm
  · intro b hb
    rw [List.mem_singleton.mp hb]
    exact next_is_new F
  · intro p hp hI
    exact absurd (Heap.lt_size (N p hp).1) ((List.mem_singleton.mp hI) ▸ Nat.lt_irrefl _)
  · exact ⟨⟨_, Heap.get?_push_size _ rfl, rfl, rfl⟩, hl.at fun o e => Heap.get?_push_of_some _ e⟩
  · intro i v m₁ news₁ h₁ tk₁ own hin hP hJ hoff hown hget hall hst F₁ N₁
    obtain ⟨rfl, hJm⟩ := hJ
    have hv : v ∈ vs := by
      have h1 : vs.toArray[i]? = some v := hP
      have h2 : vs[i]? = some v := by simpa using h1
      exact List.mem_of_getElem? h2
    obtain ⟨D, x, dx, μ, σ, t, u, a, b, c, mean, sp, parts, rfl, hT, hx, hd, g⟩ := (hok v hv).h
    have N₂ : News h₀ env.locals h₁ ((D, tupO x mean sp parts a b c) :: (x, ndO dx μ σ t u) :: (dx, dictOf [] 0) :: (own ++ news₁)) := fun p hp => by
      rcases List.mem_cons.mp hp with rfl | hp
      · exact N₁ _ (List.mem_append_right _ hT)
      rcases List.mem_cons.mp hp with rfl | hp
      · exact N₁ _ (List.mem_append_right _ hx)
      rcases List.mem_cons.mp hp with rfl | hp
      · exact N₁ _ (List.mem_append_right _ hd)
      · exact N₁ _ hp
    refine wpAny_mono (turn D x dx μ σ t u a b c mean sp parts m₁ h₁ tk₁ (own ++ news₁) g (same hJm F₁) N₂) (fun _ s₂ h₂ => wpAny_mono h₂ (fun f s₃ p => ?_) fun _ _ e => e) fun _ _ e => e
    obtain ⟨rfl, h', tk, m', e, F', N', hs⟩ := p.h
    refine .next ⟨rfl, h', tk, m', news₁, e, F', N', fun p hp => hoff p hp, rfl, hs⟩
  · intro h' tk m' news' F' N' _ hJ
    obtain ⟨rfl, hJm⟩ := hJ
    exact done m' h' tk (same hJm F') N'
end

section
variable {prog : Program} {w : World} {A : Around} {E : Value → Shared → Prop} {s : Shared} {K : Frag} {x C L : Addr} {h₀ : Heap} {m : Str → Option Value} {ox od : Obj} {name : Str}
/-- a property where objects bear slots alone -/
theorem get_propS {expr : Bool} {Q : Value → Shared → Prop} {p fget : Addr} {rest : List Value} (F : Fr h₀ L s.heap m) (X₀ : K.In h₀) (I : InstAt s.heap x ox C (some od)) (hg : plainGet K C name = true) (hh : selfFirst K C = true)
    (ha : findIn K (.ref C) name = some (some (.ref p))) (hn : specialIn K (.ref p) "__get__" = some (some (.builtin "property.__get__"))) (ht : takesIn K (.ref p) = some true) (hp : recIn K p "property" = some (.ref fget :: rest))
    (h : codeAny (model prog w) A.in1 (.call (.ref fget) ⟨[.ref x], []⟩) (fun r s' => match r with | .ok (.ret v) => wpAny (model prog w) A (handedOut v) Q E s' | .ok _ => False | .error e => wpAny (model prog w) A (noteIf true (.ref x) (.str name s.toks) e) (fun _ s'' => E e s'') E s') { s with toks := s.toks + 1 }) :
    wpAny (model prog w) A (getAttr (.ref x) name expr) Q E s :=
  get_bind (X₀.keeps F.keep) I (plainGet_of hg).1 (findObj_data (by obtain ⟨cd, hc, _⟩ := any_some hh; rw [hc]; rfl) ha hn ht) (plainGet_of hg).2 (wpAny_call (prop_get (s := { s with toks := s.toks + 1 }) (X₀.keeps F.keep) hp h))
end

theorem same4 {m₀ u : Str → Option Value} {n1 n2 n3 n4 : Str} {v1 v2 v3 v4 : Option Value} (y : Str) (h : ([n1, n2, n3, n4] : List Str).contains y = false) :
    (fun y => if y = n4 then v4 else if y = n3 then v3 else if y = n2 then v2 else if y = n1 then v1 else if ([n1, n2, n3, n4] : List Str).contains y then u y else m₀ y) y = m₀ y := by
  have hn : ∀ n ∈ ([n1, n2, n3, n4] : List Str), y ≠ n := fun n hn e => by
    subst e
    rw [List.contains_iff_mem.mpr hn] at h
    cases h
  simp only
  rw [if_neg (hn n4 (by simp)), if_neg (hn n3 (by simp)), if_neg (hn n2 (by simp)), if_neg (hn n1 (by simp)), if_neg (by rw [h]; decide)]

theorem good1 {μ σ : UInt64} {q mean T : Int} {n r : Nat} (v : V μ σ q n r T.toNat 1074) (hm : mean = q) (hn : n ≤ 64) (t0 : 1 ≤ T) (t1 : T ≤ 2048) : Good μ σ mean (r : Int) 1 T := by
  subst hm
  have hr := v.hr
  have hq := v.hq
  have hb2 : n * 2 ^ 40 ≤ 64 * 2 ^ 40 := Nat.mul_le_mul_right _ hn
  obtain ⟨z, rfl⟩ := Int.eq_ofNat_of_zero_le (show 0 ≤ T by omega)
  have hz : ((z : Int)).toNat = z := rfl
  have hs := v.s
  rw [hz, Int.natCast_mul] at hs
  exact ⟨⟨0, by decide, rfl, v.m, hs⟩, by omega, by omega, by omega, t0, t1⟩
theorem goodk {μ σ : UInt64} {q mean T k : Int} {n r : Nat} (v : V μ σ q n r (T.toNat * k.natAbs) 1074) (hm : mean = q) (hn : n ≤ 64) (t0 : 1 ≤ T) (t1 : T ≤ 2048) (hk : k.natAbs ≤ 8) :
    Good μ σ mean ((r : Int) * (if k < 0 then -k else k)) 1 T := by
  subst hm
  have hr := v.hr
  have hq := v.hq
  have hb2 : n * 2 ^ 40 ≤ 64 * 2 ^ 40 := Nat.mul_le_mul_right _ hn
  obtain ⟨z, rfl⟩ := Int.eq_ofNat_of_zero_le (show 0 ≤ T by omega)
  have hz : ((z : Int)).toNat = z := rfl
  have hs := v.s
  have ek : (if k < 0 then -k else k) = (k.natAbs : Int) := by split <;> omega
  rw [ek]
  have e : ((r * (z * k.natAbs) : Nat) : Int) = (r : Int) * (k.natAbs : Int) * (z : Int) := by rw [← Int.natCast_mul, ← Int.natCast_mul]; congr 1; ac_rfl
  rw [hz, e] at hs
  have hp : (r * k.natAbs : Nat) ≤ 1105 * 8 := Nat.mul_le_mul hr hk
  refine ⟨⟨0, by decide, rfl, v.m, hs⟩, by omega, ?_, ?_, t0, t1⟩
  · rw [← Int.natCast_mul]; omega
  · rw [← Int.natCast_mul]; omega
theorem goodd {μ σ : UInt64} {q mean T : Int} {n r i : Nat} (v : V μ σ q n r T.toNat (1074 - i)) (hm : mean = q) (hn : n ≤ 64) (t0 : 1 ≤ T) (t1 : T ≤ 2048) (hi : i ≤ 8) : Good μ σ mean (r : Int) ((2 : Int) ^ i) T := by
  subst hm
  have hr := v.hr
  have hq := v.hq
  have hb2 : n * 2 ^ 40 ≤ 64 * 2 ^ 40 := Nat.mul_le_mul_right _ hn
  obtain ⟨z, rfl⟩ := Int.eq_ofNat_of_zero_le (show 0 ≤ T by omega)
  have hz : ((z : Int)).toNat = z := rfl
  have hs := v.s
  rw [hz, Int.natCast_mul] at hs
  exact ⟨⟨i, hi, by rw [Int.natCast_pow]; rfl, v.m, hs⟩, by omega, by omega, by omega, t0, t1⟩
theorem bne_of {α : Type} [BEq α] {a b : α} (h : (a == b) = true) : ¬ ((a != b) = true) := by unfold bne; rw [h]; decide
theorem same_bool {c : Bool} {b : Nat} (h : c = decide (b = 0)) : ¬ ((c != ((b : Int) == 0)) = true) := by
  subst h
  cases b with
  | zero => decide
  | succ n =>
    have e1 : decide (n + 1 = 0) = false := decide_eq_false (by omega)
    have e2 : (((n + 1 : Nat) : Int) == 0) = false := by simp; omega
    rw [e1, e2]; decide
theorem not_of {b : Bool} (h : b = true) : ¬ ((!b) = true) := by rw [h]; decide
theorem two_neg (i : Nat) : -(2 : Int) ^ i = -((2 ^ i : Nat) : Int) := by rw [Int.natCast_pow]; rfl
theorem i_le (l : Int) : (Int.fmod l 9).toNat ≤ 8 := by rw [Int.fmod_eq_emod_of_nonneg l (by decide)]; omega
/-- what the turn asks of an item -/
theorem Good.facts {μ σ : UInt64} {mean sp parts T : Int} (g : Good μ σ mean sp parts T) :
    parts ≠ 0 ∧ (sp * T).natAbs < 2 ^ 53 ∧
    (Float64.cmp μ (Float64.ofFrac (decide (mean < 0) != decide (parts < 0)) mean.natAbs parts.natAbs) == some Ordering.eq) = true ∧
    (Float64.cmp σ (Float64.ofFrac (decide (sp * T < 0) != decide (parts < 0)) (sp * T).natAbs parts.natAbs) == some Ordering.eq) = true ∧
    ¬ ((Float64.cmp (Float64.ofFrac (decide (sp * T < 0) != decide (parts < 0)) (sp * T).natAbs parts.natAbs) 0 == some Ordering.lt) = true) := by
  obtain ⟨i, hi, rfl, hm, hs⟩ := g.h
  have m := g.m
  have s0 := g.s0
  have s1 := g.s1
  have t0 := g.t0
  have t1 := g.t1
  have hp0 : 0 < 2 ^ i := Nat.two_pow_pos i
  obtain ⟨p, hp⟩ : ∃ p : Nat, sp * T = (p : Int) := Int.eq_ofNat_of_zero_le (Int.mul_nonneg s0 (by omega))
  have hb : sp * T ≤ 8840 * 2048 := Int.mul_le_mul s1 t1 (by omega) (by omega)
  have hb' : (sp * T).natAbs < 2 ^ 53 := by omega
  have f1 := frac_is (a := mean) m hi
  have f2 := frac_is (a := sp * T) hb' hi
  refine ⟨by omega, hb', eq_true hm f1 rfl, eq_true hs f2 rfl, ?_⟩
  rw [hp] at f2 ⊢
  exact not_lt_zero f2
end Mine
end
open PySem PySem.W PyProof.Rows
set_option maxRecDepth 100000
set_option maxHeartbeats 8000000
local macro_rules | `(tactic| walk_at "subscriptTail Call Name nil nil BinOp ref int") => `(tactic| (k_here; k_dflt (refine' Mine.box_item ?N ?b0 ?b8 ?_; (case N => k_asm); (case b0 => l_fact); (case b8 => l_fact); k_whole); intro t' a' b' c' ab' bc' abc' u0 u1 u2 u3 u4 u5 X' N'; (obtain ⟨⟨f1', f2', f3', f4', f5', f6'⟩, ⟨p1', p2', p3', p4', p5', p6', p7', p8'⟩, g1'⟩ := X'.facts); (try dsimp only)))
local macro_rules | `(tactic| walk_at "storeName int") => `(tactic| (k_here; k_dflt (refine' storeX_L ?F ?N ?_ ?a ?b; (case F => k_asm); (case N => k_asm); (case a => rfl); (case b => rfl); k_whole; intro h' F' N'; (try k_sweep)); (try dsimp only)))
local macro_rules | `(tactic| walk_at "storeName ref") => `(tactic| (k_here; k_dflt (refine' storeX_L ?F ?N ?_ ?a ?b; (case F => k_asm); (case N => k_asm); (case a => rfl); (case b => rfl); k_whole; intro h' F' N'; (try k_sweep)); (try dsimp only)))
local macro_rules | `(tactic| walk_at "subscriptTail Name BinOp ref int") => `(tactic| (k_here; k_dflt (refine' Mine.row_item ?kl ?ki ?ka ?kb ?kc ?_; (case kl => is_list); (case ki => assumption); (case ka => (rw [List.length_append, List.length_cons, List.length_nil]; omega)); (case kb => (rw [List.length_append, List.length_cons, List.length_nil]; omega)); (case kc => (rw [List.length_append, List.length_cons, List.length_nil]; omega)); k_whole); intro n' t'))
local macro_rules | `(tactic| walk_at "eval Call Name cons nil") => `(tactic| (k_here; refine Call_ ?_))
local macro_rules | `(tactic| walk_at "call ref cons nil") => `(tactic| (k_here; (with_reducible show wpAny _ _ (call (Value.ref 288) [Value.int _ _] []) _ _ _); k_dflt (refine' Mine.mean_v ?X ?T ?B ?F ?N ?_; (case X => k_asm); (case T => k_asm); (case B => k_asm); (case F => k_asm); (case N => k_asm); k_whole); intro l' t' tk h' hl' F' N'; (try k_sweep); (try dsimp only)))
local macro_rules | `(tactic| walk_at "call ref cons nil") => `(tactic| (k_here; (with_reducible show wpAny _ _ (call (Value.ref 270) [Value.int _ _, Value.int _ _] []) _ _ _); k_dflt (refine' Mine.ctor_v ?X ?T ?B ?F ?N ?hl ?hr ?h0 ?h2 ?_; (case X => k_asm); (case T => k_asm); (case B => k_asm); (case F => k_asm); (case N => k_asm); (case hl => assumption); (case hr => assumption); (case h0 => exact Mine.t_lo _); (case h2 => exact Mine.t_hi _); k_whole); intro x' d' h' tk t' u' μ' σ' V' F' N'; (try k_sweep); (try dsimp only)))
local macro_rules | `(tactic| walk_at "binaryOp Sub ref ref") => `(tactic| (k_here; (with_reducible show wpAny _ _ (binaryOp Operator.Sub (Value.ref _) (Value.ref _)) _ _ _); k_dflt (refine' Mine.sub_w ?X ?T ?B ?F ?N ?hx ?hdx ?hy ?hdy ?v1 ?v2 ?g ?vx ?hz ?hn ?_; (case X => k_asm); (case T => k_asm); (case B => k_asm); (case F => k_asm); (case N => k_asm); (case hx => k_mem); (case hdx => k_mem); (case hy => k_mem); (case hdy => k_mem); (case v1 => assumption); (case v2 => assumption); (case g => assumption); (case vx => assumption); (case hz => exact Mine.t_pos _); (case hn => decide); k_whole); intro x' d' h' tk t' u' μ' σ' I' S' F' N'; (try k_sweep); (try dsimp only)))
local macro_rules | `(tactic| walk_at "binaryOp Add ref ref") => `(tactic| (k_here; (with_reducible show wpAny _ _ (binaryOp Operator.Add (Value.ref _) (Value.ref _)) _ _ _); k_dflt (refine' Mine.add_v ?X ?T ?B ?F ?N ?hx ?hdx ?hy ?hdy ?v1 ?v2 ?py ?hn ?_; (case X => k_asm); (case T => k_asm); (case B => k_asm); (case F => k_asm); (case N => k_asm); (case hx => k_mem); (case hdx => k_mem); (case hy => k_mem); (case hdy => k_mem); (case v1 => assumption); (case v2 => assumption); (case py => assumption); (case hn => decide); k_whole); intro x' d' h' tk t' u' μ' σ' V' F' N'; (try k_sweep); (try dsimp only)))
local macro_rules | `(tactic| walk_at "binaryOp Sub ref ref") => `(tactic| (k_here; (with_reducible show wpAny _ _ (binaryOp Operator.Sub (Value.ref _) (Value.ref _)) _ _ _); k_dflt (refine' Mine.sub_v ?X ?T ?B ?F ?N ?hx ?hdx ?hy ?hdy ?v1 ?v2 ?py ?hn ?_; (case X => k_asm); (case T => k_asm); (case B => k_asm); (case F => k_asm); (case N => k_asm); (case hx => k_mem); (case hdx => k_mem); (case hy => k_mem); (case hdy => k_mem); (case v1 => assumption); (case v2 => assumption); (case py => assumption); (case hn => decide); k_whole); intro x' d' h' tk t' u' μ' σ' V' F' N'; (try k_sweep); (try dsimp only)))
local macro_rules | `(tactic| walk_at "unaryOp USub ref") => `(tactic| (k_here; (with_reducible show wpAny _ _ (unaryOp UnaryOp.USub (Value.ref _)) _ _ _); k_dflt (refine' Mine.neg_v ?X ?T ?B ?F ?N ?hx ?hdx ?v1 ?_; (case X => k_asm); (case T => k_asm); (case B => k_asm); (case F => k_asm); (case N => k_asm); (case hx => k_mem); (case hdx => k_mem); (case v1 => assumption); k_whole); intro x' d' h' tk t' u' μ' σ' V' F' N'; (try k_sweep); (try dsimp only)))
local macro_rules | `(tactic| walk_at "binaryOp Mult int ref") => `(tactic| (k_here; (with_reducible show wpAny _ _ (binaryOp Operator.Mult (Value.int _ _) (Value.ref _)) _ _ _); k_dflt (refine' Mine.mul_v ?X ?T ?B ?F ?N ?hx ?hdx ?v1 ?hk ?hz ?hn ?_; (case X => k_asm); (case T => k_asm); (case B => k_asm); (case F => k_asm); (case N => k_asm); (case hx => k_mem); (case hdx => k_mem); (case v1 => assumption); (case hk => exact Mine.k_le _); (case hz => exact Mine.t_nat _); (case hn => decide); k_whole); intro x' d' h' tk t' u' μ' σ' V' F' N'; (try k_sweep); (try dsimp only)))
local macro_rules | `(tactic| walk_at "binaryOp Div ref int") => `(tactic| (k_here; (with_reducible show wpAny _ _ (binaryOp Operator.Div (Value.ref _) (Value.int _ _)) _ _ _); k_dflt (refine' Mine.div_v ?X ?T ?B ?F ?N ?hx ?hdx ?v1 ?hk ?hi ?hn ?_; (case X => k_asm); (case T => k_asm); (case B => k_asm); (case F => k_asm); (case N => k_asm); (case hx => k_mem); (case hdx => k_mem); (case v1 => assumption); (case hk => exact Mine.two_neg _); (case hi => exact Mine.i_le _); (case hn => decide); k_whole); intro x' d' h' tk t' u' μ' σ' V' F' N'; (try k_sweep); (try dsimp only)))
local macro_rules | `(tactic| walk_at "exec For Tuple Name cons nil") => `(tactic| (k_here; (rename Fr _ _ _ _ => lF'); (with_unfolding_all refine' For_turns lF' ?_; k_whole)))
local macro_rules | `(tactic| walk_at "pyIter ref") => `(tactic| (k_here; (with_reducible show wpAny _ _ (pyIter (Value.ref _)) (fun it s₂ => TurnsAt _ _ _ _ _ _ _ _ _ it s₂) _ _); k_dflt (refine' Mine.iter_asked [Str.ofString "normal", Str.ofString "mean", Str.ofString "spread", Str.ofString "parts"] ?T ?hh ?F ?N ?hm ?hok ?turn ?done; (case hh => exact rfl); (case F => k_asm); (case N => k_asm); (case hm => k_mem); (case hok => ((repeat' (first | exact List.forall_mem_nil _ | (refine List.forall_mem_cons.mpr ⟨?_, ?_⟩))); (all_goals (refine Mine.item_ok (by k_mem) (by k_mem) (by k_mem) ?_; first | exact Mine.good1 (by assumption) (by first | rfl | omega) (by decide) (Mine.t_lo _) (Mine.t_hi _) | exact Mine.goodk (by assumption) (by first | rfl | (simp only [Int.mul_sub, Int.mul_add]; omega)) (by decide) (Mine.t_lo _) (Mine.t_hi _) (Mine.k_le _) | exact Mine.goodd (by assumption) (by first | rfl | omega) (by decide) (Mine.t_lo _) (Mine.t_hi _) (Mine.i_le _)))))); (case' turn => (intro D' x' d' μ' σ' t' u' a' b' c' mn' sp' pt' o' h' tk' led' G' F' N'; (obtain ⟨q1', q2', q3', q4', q5'⟩ := Mine.Good.facts G'); (have q6' := Mine.Good.m G'); (have q7' := Mine.Good.s0 G'); (have q8' := Mine.Good.s1 G'); (try dsimp only [PyProof.Rows.envOf] at F' N'); (try dsimp only))); (case' done => (intro o' h' tk' F' N'; (try dsimp only [PyProof.Rows.envOf] at F' N'); (try dsimp only)))))
local macro_rules | `(tactic| walk_at "getAttr ref true") => `(tactic| (k_here; k_dflt (refine' Mine.get_propS ?k1 ?k2 ?k3 ?k4 ?k5 ?k6 ?k7 ?k8 ?k9 ?_; (case k1 => k_asm); (case k2 => k_asm); (case k3 => k_inst); (case k4 => k_is); (case k5 => k_is); (case k6 => k_is); (case k7 => k_is); (case k8 => k_is); (case k9 => k_is); k_whole; k_enter)))
local macro_rules | `(tactic| walk_at "TurnPost") => `(tactic| ((rename Fr _ _ _ _ => tF'); (rename News _ _ _ _ => tN'); exact ⟨⟨rfl, _, _, _, rfl, tF', (fun p hp => tN' p (by (repeat (first | exact hp | refine List.Mem.tail _ ?_)))), Mine.same4⟩⟩))
local macro_rules | `(tactic| walk_at "ite") => `(tactic| (refine' ite_neg ?c ?_; (case c => first | assumption | exact Mine.same_bool (by assumption) | exact Mine.bne_of (by assumption) | exact Mine.not_of (by assumption))))
local macro_rules | `(tactic| walk_at "binaryOp Div int int") => `(tactic| (refine Mine.op_div_ii rfl (by assumption) (by assumption) ?_))
local macro_rules | `(tactic| walk_at "call ref cons nil") => `(tactic| (k_here; (with_reducible show wpAny _ _ (call (Value.ref 270) [Value.float _ _, Value.float _ _] []) _ _ _); k_dflt (refine' Mine.ctor_ff ?X ?T ?B ?F ?N ?hb ?_; (case X => k_asm); (case T => k_asm); (case B => k_asm); (case F => k_asm); (case N => k_asm); (case hb => assumption); k_whole); intro x' d' h' tk t' u' F' N'; (try k_sweep); (try dsimp only)))
local macro_rules | `(tactic| walk_at "compareOp NotEq ref ref") => `(tactic| (k_here; (with_reducible show wpAny _ _ (compareOp CmpOp.NotEq (Value.ref _) (Value.ref _)) _ _ _); k_dflt (refine' Mine.ne_c ?X ?T ?B ?F ?N ?hx ?hdx ?hy ?hdy ?he ?_; (case X => k_asm); (case T => k_asm); (case B => k_asm); (case F => k_asm); (case N => k_asm); (case hx => k_mem); (case hdx => k_mem); (case hy => k_mem); (case hdy => k_mem); (case he => assumption); k_whole); intro tk h' F' N'; (try k_sweep); (try dsimp only)))
local macro_rules | `(tactic| walk_at "compareOp Eq ref ref") => `(tactic| (k_here; (with_reducible show wpAny _ _ (compareOp CmpOp.Eq (Value.ref _) (Value.ref _)) _ _ _); k_dflt (refine' Mine.eq_c ?X ?T ?B ?F ?N ?hx ?hdx ?hy ?hdy ?he ?_; (case X => k_asm); (case T => k_asm); (case B => k_asm); (case F => k_asm); (case N => k_asm); (case hx => k_mem); (case hdx => k_mem); (case hy => k_mem); (case hdy => k_mem); (case he => exact Mine.eq_true (by assumption) (Mine.V.m (by assumption)) (by omega)); k_whole); intro tk h' F' N'; (try k_sweep); (try dsimp only)))
theorem PySem.Challenge.cw_io0021_01_holds : PySem.Challenge.rw_io0021_01.Holds :=
  Mine.hd (by
    k_with "pyIter ref" => k_search (fun pre => True)
    w_strict (k_go0; (all_goals try k_fold); k_steps; (all_goals (try k_data)); all_goals w_report))
