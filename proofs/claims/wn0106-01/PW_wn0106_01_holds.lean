import PyProof.Rows.All
import Wide.All
import OpenK.AllK
import Wide.FinOn
import PySem.Challenge.RW_wn0106_01
set_option Elab.async false
section
open PySem PySem.W PyProof.Rows
namespace Mine
theorem hdL.tw16045754949375652415 : True := trivial
theorem hdL.tw14534862872131160240 : True := trivial
theorem hdL.tw16879496233455629077 : True := trivial
theorem hdL.tw2189944279912041575 : True := trivial
theorem hdL.tw17948551754457968538 : True := trivial
theorem hdL.tw7142164068232013118 : True := trivial
theorem hdL.tw1703884764230814706 : True := trivial
theorem hdL.tw1132791569048711097 : True := trivial
theorem hdL.tw16699006843573400652 : True := trivial
theorem hdL.tw10991712957816097905 : True := trivial
theorem hdL.tw7085006861168942275 : True := trivial
theorem hdL.tw14858942583109500861 : True := trivial
theorem hdL.tw18391933974664184608 : True := trivial
theorem hdL.tw13519339224947982819 : True := trivial
theorem hdL.tw13774621440000624521 : True := trivial
theorem hdL.tw15312347007799507512 : True := trivial
theorem hdL.tw60181691134681965 : True := trivial
theorem hdL.tw12068200867095444924 : True := trivial
theorem hdL.tw6152923858569649331 : True := trivial
theorem hdL.tw1007038240760806609 : True := trivial
theorem hdL.tw8020886508642366763 : True := trivial
theorem hdL.tw14111009893525251480 : True := trivial
theorem hdL.tw9986969381898294174 : True := trivial
theorem hdL.tw7253670385170167076 : True := trivial
theorem hdL.tw8116614787961218320 : True := trivial
theorem hdL.tw13828940931460568006 : True := trivial
theorem hdL.tw18102175848328981056 : True := trivial
theorem hdL.tw12172639940959347601 : True := trivial
theorem hdL.tw14596959562266068623 : True := trivial
theorem hdL.tw13239055055367104234 : True := trivial
theorem hdL.tw13334973536480654008 : True := trivial
theorem hdL.tw17962295359916766030 : True := trivial
theorem hdL.tw6235910879098752092 : True := trivial
theorem hdL.tw9581202659478928075 : True := trivial
theorem hdL.tw9288279596750159178 : True := trivial
theorem hdL.tw6140081895739113477 : True := trivial
theorem hdL.tw6498944874804408719 : True := trivial
theorem hdL.tw12577075965948399338 : True := trivial
theorem hdL.tw8345817379676268051 : True := trivial
theorem hdL.tw4002173201825942200 : True := trivial
theorem hdL.tw9809747214088079008 : True := trivial
theorem hdL.tw11457945441970949033 : True := trivial
theorem hdL.tw17298903991010226903 : True := trivial
theorem hdL.tw10166567445950766955 : True := trivial
theorem hdL.tw6632291892591857106 : True := trivial
theorem hdL.tw13751135429040126618 : True := trivial
theorem hdL.tw12489685302724957126 : True := trivial
theorem hdL.tw18342231491454721700 : True := trivial
theorem hdL.tw3154210280323551801 : True := trivial
theorem hdL.tw3532204805298446934 : True := trivial
theorem hdL.tw2545001705943545478 : True := trivial
theorem hdL.tw13741236445303814375 : True := trivial
theorem hdL.tw1181795652675194365 : True := trivial
theorem hdL.tw1418145474094812636 : True := trivial
theorem hdL.tw1661263032894131015 : True := trivial
theorem hdL.tw10483913273132251106 : True := trivial
theorem hdL.tw4113010346260717491 : True := trivial
theorem hdL.tw9643624642192793406 : True := trivial
theorem hdL.tw9952669980536933892 : True := trivial
theorem hdL.tw4725757146693672326 : True := trivial
theorem hdL.tw8503191588657536589 : True := trivial
theorem hdL.tw9047866723990726578 : True := trivial
theorem hdL.tw17539128709740961986 : True := trivial
theorem hdL.tw5376723595689720150 : True := trivial
theorem hdL.tw9466571184096597313 : True := trivial
theorem hdL.tw5174356077367781195 : True := trivial
theorem hdL.tw8991329567877868392 : True := trivial
theorem hdL.tw1489632282907703829 : True := trivial
theorem hdL.tw12465263884804466367 : True := trivial
theorem hdL.tw15027826233731040388 : True := trivial
theorem hdL.tw17891058279845890356 : True := trivial
theorem hdL.tw3888730364962220507 : True := trivial
theorem hdL.tw16105225657478400797 : True := trivial
theorem hdL.tw14643954459316555175 : True := trivial
theorem hdL.tw16099446795446022643 : True := trivial
theorem hdL.tw12161504111266210254 : True := trivial
theorem hdL.tw6711775096316613388 : True := trivial
theorem hdL.tw9815478438986339894 : True := trivial
theorem hdL.tw14253102332930443574 : True := trivial
theorem hdL.tw18002194521738555320 : True := trivial
theorem hdL.tw8465392240603984488 : True := trivial
theorem hdL.tw8937673941854702855 : True := trivial
theorem hdL.tw5494119951302768589 : True := trivial
theorem hdL.tw15006122663864139019 : True := trivial
theorem hdL.tw946797738875611885 : True := trivial
theorem hdL.tw13209517706050331412 : True := trivial
theorem hdL.tw323326061227046952 : True := trivial
theorem hdL.tw4762455330366506614 : True := trivial
theorem hdL.tw2163851802767150547 : True := trivial
theorem hdL.tw15977820745660902234 : True := trivial
theorem hdL.tw17524968477679832874 : True := trivial
theorem hdL.tw2911714231090970039 : True := trivial
theorem hdL.tw5537590204896502650 : True := trivial
theorem hdL.tw357486453476387696 : True := trivial
theorem hdL.tw14137832771259935610 : True := trivial
theorem hdL.tw2254215964471262872 : True := trivial
theorem hdL.tw7800414229101918107 : True := trivial
theorem hdL.tw10990724617347284438 : True := trivial
theorem hdL.tw17113787771128818154 : True := trivial
theorem hdL.tw6787832423575527404 : True := trivial
theorem hdL.tw10925734829566405374 : True := trivial
theorem hdL.tw10795408414921255853 : True := trivial
theorem hdL.tw227398222364426256 : True := trivial
theorem hdL.tw8931060360048702757 : True := trivial
theorem hdL.tw2426454042403800288 : True := trivial
theorem hdL.tw5352286453858232740 : True := trivial
theorem hdL.tw50204712000220740 : True := trivial
theorem hdL.tw16209476461169742890 : True := trivial
theorem hdS.tw14111009893525251480 : True := trivial
theorem hdL.tw435446561031645289 : True := trivial
theorem hdL.tw12941700570824389275 : True := trivial
theorem hdL.tw9909268184798040164 : True := trivial
theorem hdL.tw1775867478707380536 : True := trivial
theorem hdL.tw13957251953434077142 : True := trivial
theorem hdL.tw3580642713532294734 : True := trivial
theorem hdL.tw2856613851463114065 : True := trivial
theorem hdL.tw12047816250074716665 : True := trivial
theorem hdL.tw2269380341425985487 : True := trivial
theorem hdL.tw8146004020260923083 : True := trivial
theorem hdL.tw14868436977734399398 : True := trivial
theorem hdL.tw10054357052011446001 : True := trivial
theorem hdS.tw1703884764230814706 : True := trivial
theorem hdL.tw13055718749388384718 : True := trivial
theorem hdL.tw13889095739087356336 : True := trivial
theorem hdL.tw1428366649992065941 : True := trivial
theorem hdL.tw9993112614566988419 : True := trivial
theorem hdL.tw9987313893112282163 : True := trivial
theorem hdL.tw16573412975936063612 : True := trivial
theorem hdL.tw9155917747207382177 : True := trivial
theorem hdL.tw17662836105211171704 : True := trivial
theorem hdL.tw6278908130749378891 : True := trivial
theorem hdL.tw16522262788773943680 : True := trivial
theorem hdL.tw1973800929748631806 : True := trivial
theorem hdL.tw1305127795596039513 : True := trivial
theorem hdL.tw6674867571957155653 : True := trivial
theorem hdL.tw1652353644286967833 : True := trivial
theorem hdL.tw17962043293739869953 : True := trivial
theorem hdL.tw17378103760935703311 : True := trivial
theorem hdL.tw4259045537704096344 : True := trivial
theorem hdL.tw14994032706989354273 : True := trivial
theorem hdL.tw8752403273554555975 : True := trivial
theorem hdL.tw17597309831185493667 : True := trivial
theorem hdL.tw13523664422679568448 : True := trivial
theorem hdL.tw12696718375396113326 : True := trivial
theorem hdL.tw14786121146500744670 : True := trivial
theorem hdL.tw3107618166659284416 : True := trivial
theorem hdL.tw5632797197640891662 : True := trivial
theorem hdL.tw5628910947272639304 : True := trivial
theorem hdL.tw3061408232356638883 : True := trivial
theorem hdL.tw2508255044705368994 : True := trivial
theorem hdL.tw12464389028852661062 : True := trivial
theorem hdL.tw2085400673760114819 : True := trivial
theorem hdL.tw12923971567515537766 : True := trivial
theorem hdL.tw6641675134022156717 : True := trivial
theorem hdL.tw9091955233585713486 : True := trivial
theorem hdL.tw2741473496829026501 : True := trivial
theorem hdL.tw10240257810479705677 : True := trivial
theorem hdL.tw17868684785791449257 : True := trivial
theorem hdL.tw4906943311226954823 : True := trivial
theorem hdL.tw3526784410589176812 : True := trivial
theorem hdL.tw162592751135725392 : True := trivial
theorem hdL.tw18101054142240410684 : True := trivial
theorem hdL.tw14654399778066184591 : True := trivial
theorem hdL.tw2836055838129800979 : True := trivial
section
local macro_rules
  | `(tactic| refine $t) => `(tactic| first | ((refine' (fun (z : ((PySem.W.OpenLaw.row PySem.Challenge.rw_wn0106_01).wellSaid = true) ∧ ?P ∧ ?Q) => (fun (_ : (PySem.W.OpenLaw.row PySem.Challenge.rw_wn0106_01).wellSaid = true) => ?m) z.1) ?hz); (rotate_left 2); (refine' $t); (case hl => exact z.2.1); (case hc => exact z.2.2)) | refine' $t)
  | `(tactic| w_on) => `(tactic| skip)
set_option maxRecDepth 100000 in
set_option maxHeartbeats 0 in
open_top hd for (PySem.W.OpenLaw.row PySem.Challenge.rw_wn0106_01)
end
abbrev PickL {A L W H : Prop} (_ : (A ∧ L ∧ W) → H) : Prop := (L → H) → H
section
local macro_rules
  | `(tactic| refine $t) => `(tactic| first | (refine' (‹_ → PySem.W.OpenRow.Holds (PySem.W.OpenLaw.row PySem.Challenge.rw_wn0106_01)›) ?hl) | refine' $t)
set_option maxRecDepth 100000 in
set_option maxHeartbeats 0 in
set_option Elab.async true in
theorem hdL : PickL Mine.hd := by
  intro k
  k_head
end
set_option maxRecDepth 100000 in
set_option maxHeartbeats 0 in
set_option Elab.async true in
theorem hdS : ((PySem.W.OpenLaw.row PySem.Challenge.rw_wn0106_01).wellSaid = true → (PySem.W.OpenLaw.row PySem.Challenge.rw_wn0106_01).Holds) → PySem.Challenge.rw_wn0106_01.Holds := by
  intro k
  o_law
  exact k (by assumption)
end Mine
end
local macro_rules | `(tactic| walk_at $s:str) => `(tactic| k_extra $(Lean.Syntax.mkStrLit ("!" ++ s.getString)))
section
open PySem PySem.W PyProof.Rows
namespace Mine
/-- a call that hands one value back, whatever the caller's frame -/
def Pure1 (w : World) (f : Addr) (vs : List Value) (need : Nat) (R : Tok → Value) : Prop :=
  ∀ (mean : ExcName → Option Value) (mg mb : Str → Option Value) (dp un : Nat) (gd : Option (List Code)) (cn : Str) (cs : Scope) (a : Addr) (ccd : Value) (cl : List (Str × Addr)) (outer : List Env) (A₀ : Around) (base h₀ : Heap) (L : Addr) (m : Str → Option Value) (news : List (Addr × Obj)) (s : Shared) (Q E : Value → Shared → Prop),
    Below A₀ base outer h₀ → Fr h₀ L s.heap m → (Mine.hd.heap_1 w.params).In h₀ → News h₀ L s.heap news → Top Mine.hd.view_1 (looseW Mine.hd.view_1 [Str.ofString "EXACT_TOKEN_TYPES"]) mean mg mb h₀ → cs.kind = .function →
    dp + need < recursionLimit → un + 8 * need < cLine →
    (∀ (t : Tok) (h' : Heap) (tk' : Nat), Fr h₀ L h' m → News h₀ L h' news → Q (R t) { s with heap := h', toks := tk' }) →
    wpAny (model PySem.Challenge.rw_wn0106_01.row.prog w) (ktrTop dp un gd cn cs L a ccd cl outer) (call (.ref f) vs) Q E s
theorem Pure1.use {w : World} {f : Addr} {vs : List Value} {need : Nat} {R : Tok → Value} (C : Pure1 w f vs need R)
    {mean : ExcName → Option Value} {mg mb : Str → Option Value} {dp un : Nat} {gd : Option (List Code)} {cn : Str} {cs : Scope} {a : Addr} {ccd : Value} {cl : List (Str × Addr)} {outer : List Env} {A₀ : Around} {base h₀ : Heap} {L : Addr} {m : Str → Option Value} {news : List (Addr × Obj)} {s : Shared} {Q E : Value → Shared → Prop}
    (B : Below A₀ base outer h₀) (F : Fr h₀ L s.heap m) (X : (Mine.hd.heap_1 w.params).In h₀) (N : News h₀ L s.heap news) (T : Top Mine.hd.view_1 (looseW Mine.hd.view_1 [Str.ofString "EXACT_TOKEN_TYPES"]) mean mg mb h₀) (hk : cs.kind = .function)
    (hd : dp + need < recursionLimit) (hu : un + 8 * need < cLine)
    (ret : ∀ (t : Tok) (h' : Heap) (tk' : Nat), Fr h₀ L h' m → News h₀ L h' news → Q (R t) { s with heap := h', toks := tk' }) :
    wpAny (model PySem.Challenge.rw_wn0106_01.row.prog w) (ktrTop dp un gd cn cs L a ccd cl outer) (call (.ref f) vs) Q E s := C _ _ _ _ _ _ _ _ _ _ _ _ _ _ _ _ _ _ _ _ _ B F X N T hk hd hu ret
noncomputable def qs (n : Nat) : Str := ⟨(List.replicate n 34).toArray⟩
noncomputable def bs (n : Nat) : Str := ⟨(List.replicate n 66).toArray⟩
theorem qs_len (n : Nat) : (qs n).length = n := by simp [qs, Str.length]
theorem bs_len (n : Nat) : (bs n).length = n := by simp [bs, Str.length]
end Mine
end
section
open PySem PySem.W PyProof.Rows
namespace Mine
section
variable {M : Model} {A : Around} {E : Value → Shared → Prop} {env : Env} {Q : Flow → Shared → Prop} {P : Shared → Prop}
/-- the first statements end in a state that P describes; the rest goes on from any such state -/
theorem execs_cut {a b : List Stmt} {s : Shared} (h1 : wpAny M A (execs a env) (fun f s' => match f with | .next => P s' | f => Q f s') E s) (h2 : ∀ s', P s' → wpAny M A (execs b env) Q E s') :
    wpAny M A (execs (a ++ b) env) Q E s := fun Γ p hΓ => by
  have h := h1 Γ p hΓ
  clear h1
  induction a generalizing p s with
  | nil => exact h2 s h Γ p hΓ
  | cons st a ih =>
    rw [execs_cons, Sem.wp_bind'] at h
    rw [List.cons_append, execs_cons, Sem.wp_bind']
    refine Sem.wp_mono M Γ _ (fun f p' s' k => ?_) (fun _ _ _ k => k) _ _ h
    cases f with
    | next => exact ih p' k
    | _ => exact k
theorem execs_cut1 {s : Shared} {s1 : Stmt} {b : List Stmt} (h1 : wpAny M A (execs [s1] env) (fun f s' => match f with | .next => P s' | f => Q f s') E s) (h2 : ∀ s', P s' → wpAny M A (execs b env) Q E s') : wpAny M A (execs (s1 :: b) env) Q E s := execs_cut (a := [s1]) h1 h2
theorem execs_cut2 {s : Shared} {s1 s2 : Stmt} {b : List Stmt} (h1 : wpAny M A (execs [s1, s2] env) (fun f s' => match f with | .next => P s' | f => Q f s') E s) (h2 : ∀ s', P s' → wpAny M A (execs b env) Q E s') : wpAny M A (execs (s1 :: s2 :: b) env) Q E s := execs_cut (a := [s1, s2]) h1 h2
end
end Mine
end
section
open PySem PySem.W PyProof.Rows
namespace Mine
noncomputable def p257 : List Nat → List Nat
  | [] => []
  | [c] => if c = 34 then [] else [c]
  | c :: d :: r => if c = 34 then (if d = 34 then 34 :: p257 r else []) else c :: p257 (d :: r)
theorem item_n (x : Str) (i : Int) (h0 : 0 ≤ i) (h : i < (x.length : Int)) (c : Nat) (r : List Nat) (hd : x.cps.toList.drop i.toNat = c :: r) : Txt.item x i = ⟨#[c]⟩ := by
  rw [item_at h0 h rfl]
  have h1 : x.cps.toList[i.toNat]? = some c := by
    have := congrArg List.head? hd
    simpa [List.head?_drop] using this
  have h2 : x.cps.getD i.toNat 0 = c := by
    rw [Array.getD_eq_getD_getElem?, ← Array.getElem?_toList, h1]; rfl
  rw [h2]
theorem drop_n (x : Str) (i : Int) (h0 : 0 ≤ i) (h : i < (x.length : Int)) : ∃ c, x.cps.toList.drop i.toNat = c :: x.cps.toList.drop (i + 1).toNat := by
  have hl : i.toNat < x.cps.toList.length := by simp only [Array.length_toList]; unfold Str.length at h; omega
  refine ⟨x.cps.toList[i.toNat], ?_⟩
  rw [List.drop_eq_getElem_cons hl]
  congr 2
  omega
theorem quote_eq : Str.ofString "\"" = ⟨#[34]⟩ := by decide +kernel
theorem sq_ne {c d : Nat} (h : ((⟨#[c]⟩ : Str) != ⟨#[d]⟩) = true) : c ≠ d := by
  intro e; subst e; simp at h
theorem sq_eq {c d : Nat} (h : ((⟨#[c]⟩ : Str) == ⟨#[d]⟩) = true) : c = d := by
  have := eq_of_beq h
  simpa using this
theorem sq_ne' {c d : Nat} (h : ((⟨#[c]⟩ : Str) == ⟨#[d]⟩) = false) : c ≠ d := by
  intro e; subst e; simp at h
theorem sq_eq' {c d : Nat} (h : ((⟨#[c]⟩ : Str) != ⟨#[d]⟩) = false) : c = d := by
  have := eq_of_beq (by simpa [bne] using h : ((⟨#[c]⟩ : Str) == ⟨#[d]⟩) = true)
  simpa using this
/-- the loop's word -/
def W257 (resp : Str) (i : Int) (d : Str) : Prop := d.cps.toList ++ p257 (resp.cps.toList.drop i.toNat) = p257 (resp.cps.toList.drop 5)
section
variable {resp d : Str} {i : Int}
theorem w257_both (h0 : 5 ≤ i) (h1 : i ≤ (resp.length : Int)) (hd : (d.length : Int) ≤ i) (hw : W257 resp i d) (hi : i < (resp.length : Int)) (e1 : (Txt.item resp i == Str.ofString "\"") = true) (hn : ¬ (resp.length : Int) ≤ i + 1) (e2 : (Txt.item resp (i + 1) != Str.ofString "\"") = false) :
    5 ≤ i + 1 + 1 ∧ i + 1 + 1 ≤ (resp.length : Int) ∧ ((d ++ Txt.item resp i).length : Int) ≤ i + 1 + 1 ∧ W257 resp (i + 1 + 1) (d ++ Txt.item resp i) := by
  obtain ⟨c1, hc1⟩ := drop_n resp i (by omega) hi
  obtain ⟨c2, hc2⟩ := drop_n resp (i + 1) (by omega) (by omega)
  have i1 := item_n resp i (by omega) hi c1 _ hc1
  have i2 := item_n resp (i + 1) (by omega) (by omega) c2 _ hc2
  rw [i1, quote_eq] at e1
  rw [i2, quote_eq] at e2
  have := sq_eq e1
  have := sq_eq' e2
  subst c1 c2
  refine ⟨by omega, by omega, ?_, ?_⟩
  · rw [Str.length_append, i1]; show ((d.length + 1 : Nat) : Int) ≤ _; omega
  · unfold W257 at hw ⊢
    rw [hc1, hc2, p257, if_pos rfl, if_pos rfl] at hw
    rw [i1, ← hw, Str.cps_append]
    simp
theorem w257_one (h0 : 5 ≤ i) (h1 : i ≤ (resp.length : Int)) (hd : (d.length : Int) ≤ i) (hw : W257 resp i d) (hi : i < (resp.length : Int)) (e1 : (Txt.item resp i == Str.ofString "\"") = false) :
    5 ≤ i + 1 ∧ i + 1 ≤ (resp.length : Int) ∧ ((d ++ Txt.item resp i).length : Int) ≤ i + 1 ∧ W257 resp (i + 1) (d ++ Txt.item resp i) := by
  obtain ⟨c1, hc1⟩ := drop_n resp i (by omega) hi
  have i1 := item_n resp i (by omega) hi c1 _ hc1
  rw [i1, quote_eq] at e1
  have hne := sq_ne' e1
  refine ⟨by omega, by omega, ?_, ?_⟩
  · rw [Str.length_append, i1]; show ((d.length + 1 : Nat) : Int) ≤ _; omega
  · unfold W257 at hw ⊢
    rw [i1, ← hw, Str.cps_append, hc1]
    cases hr : resp.cps.toList.drop (i + 1).toNat with
    | nil => simp [p257, hne]
    | cons c r => simp [p257, hne]
theorem str_of {d : Str} {l : List Nat} (h : d.cps.toList = l) : d = ⟨l.toArray⟩ := by
  subst h; cases d; simp
theorem w257_end (h0 : 5 ≤ i) (h1 : i ≤ (resp.length : Int)) (hw : W257 resp i d) (hi : ¬ i < (resp.length : Int)) : d = ⟨(p257 (resp.cps.toList.drop 5)).toArray⟩ := by
  refine str_of ?_
  unfold W257 at hw
  rw [← hw]
  have hl : resp.cps.toList.length ≤ i.toNat := by simp only [Array.length_toList]; unfold Str.length at hi; omega
  rw [List.drop_eq_nil_of_le hl]
  simp [p257]
theorem w257_brk1 (h0 : 5 ≤ i) (h1 : i ≤ (resp.length : Int)) (hw : W257 resp i d) (hi : i < (resp.length : Int)) (e1 : (Txt.item resp i == Str.ofString "\"") = true) (hn : (resp.length : Int) ≤ i + 1) : d = ⟨(p257 (resp.cps.toList.drop 5)).toArray⟩ := by
  refine str_of ?_
  obtain ⟨c1, hc1⟩ := drop_n resp i (by omega) hi
  have i1 := item_n resp i (by omega) hi c1 _ hc1
  rw [i1, quote_eq] at e1
  have := sq_eq e1
  subst c1
  unfold W257 at hw
  have hl : resp.cps.toList.length ≤ (i + 1).toNat := by simp only [Array.length_toList]; unfold Str.length at hi hn; omega
  rw [← hw, hc1, List.drop_eq_nil_of_le hl]
  simp [p257]
theorem w257_brk2 (h0 : 5 ≤ i) (h1 : i ≤ (resp.length : Int)) (hw : W257 resp i d) (hi : i < (resp.length : Int)) (e1 : (Txt.item resp i == Str.ofString "\"") = true) (hn : ¬ (resp.length : Int) ≤ i + 1) (e2 : (Txt.item resp (i + 1) != Str.ofString "\"") = true) : d = ⟨(p257 (resp.cps.toList.drop 5)).toArray⟩ := by
  refine str_of ?_
  obtain ⟨c1, hc1⟩ := drop_n resp i (by omega) hi
  obtain ⟨c2, hc2⟩ := drop_n resp (i + 1) (by omega) (by omega)
  have i1 := item_n resp i (by omega) hi c1 _ hc1
  have i2 := item_n resp (i + 1) (by omega) (by omega) c2 _ hc2
  rw [i1, quote_eq] at e1
  rw [i2, quote_eq] at e2
  have := sq_eq e1
  have hne := sq_ne e2
  subst c1
  unfold W257 at hw
  rw [← hw, hc1, hc2]
  simp [p257, hne]
end
end Mine
namespace Mine
theorem w257_start {resp : Str} (h5 : 5 ≤ resp.length) : (5 : Int) ≤ 5 ∧ (5 : Int) ≤ (resp.length : Int) ∧ (((Str.ofString "").length : Nat) : Int) ≤ 5 ∧ W257 resp 5 (Str.ofString "") := by
  have e : Str.ofString "" = ⟨#[]⟩ := by decide +kernel
  rw [e]
  refine ⟨by omega, by omega, by decide, ?_⟩
  simp [W257]
end Mine
end
section
open PySem PySem.W PyProof.Rows
namespace Mine
set_option maxRecDepth 100000 in
set_option maxHeartbeats 8000000 in
theorem parse257_c (w : World) (resp : Str) (tk : Tok) (hlen : resp.length < 100) (hs1 : Txt.slice resp none (some 3) = Str.ofString "257") (hs2 : Txt.slice resp (some 3) (some 5) = Str.ofString " \"") (hs5 : 5 ≤ resp.length) : Pure1 w 65 [.str resp tk] 3 (fun t => .str ⟨(p257 (resp.cps.toList.drop 5)).toArray⟩ t) := by
  unfold Pure1
  k_fill
  k_with_none
  intro mean mg mb dp un gd cn cs a ccd cl outer A₀ base h₀ L m news s Q E B F X N T hk hd hu hret
  k_with "exec While Compare cons nil" => k_while (fun _ i d => 5 ≤ i ∧ i ≤ (resp.length : Int) ∧ (d.length : Int) ≤ i ∧ W257 resp i d) (fun _ i _ => resp.length - i.toNat) "i" "dirname"
  k_with "state" => first
    | exact w257_start (by assumption)
    | exact w257_both (by assumption) (by assumption) (by assumption) (by assumption) (by assumption) (by assumption) (by assumption) (by assumption)
    | exact w257_one (by assumption) (by assumption) (by assumption) (by assumption) (by assumption) (by assumption)
  refine wpAny_call ?_
  k_dflt cell_enter
  k_steps
  all_goals (first
    | (exfalso; simp_all; done)
    | exact cb_retS hret (w257_brk1 (by assumption) (by assumption) (by assumption) (by assumption) (by assumption) (by assumption)) (by assumption) (by assumption)
    | exact cb_retS hret (w257_brk2 (by assumption) (by assumption) (by assumption) (by assumption) (by assumption) (by assumption) (by assumption)) (by assumption) (by assumption)
    | exact cb_retS hret (w257_end (by assumption) (by assumption) (by assumption) (by assumption)) (by assumption) (by assumption)
    | skip)
end Mine
end
section
open PySem PySem.W PyProof.Rows
namespace Mine
set_option maxRecDepth 100000 in
set_option maxHeartbeats 8000000 in
theorem subst_c (w : World) (x y : Str) (t u : Tok) (h : (x = ⟨#[34]⟩ ∧ y = ⟨#[66]⟩) ∨ (x = ⟨#[66]⟩ ∧ y = ⟨#[34]⟩)) : Pure1 w 103 [.str x t, .str y u] 3 (fun t => .int 2 t) := by
  unfold Pure1
  k_fill
  k_with_none
  intro mean mg mb dp un gd cn cs a ccd cl outer A₀ base h₀ L m news s Q E B F X N T hk hd hu hret
  have e1 : (x == y) = false := by rcases h with ⟨rfl, rfl⟩ | ⟨rfl, rfl⟩ <;> decide
  have e2 : (Txt.lower x == Txt.lower y) = false := by rcases h with ⟨rfl, rfl⟩ | ⟨rfl, rfl⟩ <;> decide +kernel
  have e3 : x.length = 1 := by rcases h with ⟨rfl, rfl⟩ | ⟨rfl, rfl⟩ <;> rfl
  have e4 : y.length = 1 := by rcases h with ⟨rfl, rfl⟩ | ⟨rfl, rfl⟩ <;> rfl
  clear h
  refine wpAny_call ?_
  k_dflt cell_enter
  k_steps
  all_goals exact cb_retI hret rfl (by assumption) (by assumption)
end Mine
end
section
open PySem PySem.W PyProof.Rows
namespace Mine
noncomputable def rep (c n : Nat) : Str := ⟨(List.replicate n c).toArray⟩
theorem rep_len (c n : Nat) : (rep c n).length = n := by simp [rep, Str.length]
theorem slice_eq_from {x : Str} {i : Int} (h0 : 0 ≤ i) (h1 : i ≤ x.length) : Txt.slice x (some i) none = ⟨(x.cps.toList.drop i.toNat).toArray⟩ := by
  have := eq_of_beq (slice_closes_fromL h0 h1 rfl)
  rw [this]
  congr 2
  rw [List.take_of_length_le]
  simp only [List.length_drop, Array.length_toList]; unfold Str.length; omega
theorem slice_rep (c n : Nat) (p : Int) (h0 : 0 ≤ p) (h1 : p ≤ n) : Txt.slice (rep c n) (some p) none = rep c (n - p.toNat) := by
  rw [slice_eq_from h0 (by rw [rep_len]; exact h1)]
  simp [rep]
theorem slice_nn (x : Str) : Txt.slice x none none = x := by
  unfold Txt.slice
  rw [if_pos]
  simp [Builtin.Str.strSliceIndices, sliceRange]
  by_cases h : 0 < x.length
  · rw [if_pos h]; simp
  · rw [if_neg h]; simp; omega
theorem item_rep (c n : Nat) (p : Int) (h0 : 0 ≤ p) (h1 : p < n) : Txt.item (rep c n) p = ⟨#[c]⟩ := by
  rw [item_at h0 (by rw [rep_len]; exact h1) rfl]
  have : (rep c n).cps.getD p.toNat 0 = c := by
    have hp : p.toNat < n := by omega
    simp [rep, hp]
  rw [this]
theorem item_rep_last (c n : Nat) (h1 : 0 < n) : Txt.item (rep c n) (-1) = ⟨#[c]⟩ := by
  obtain ⟨k, rfl⟩ : ∃ k, n = k + 1 := ⟨n - 1, by omega⟩
  unfold rep Txt.item Txt.charAt seqIndex?
  simp only [Str.length, List.size_toArray, List.length_replicate, show (-1 : Int) < 0 by decide, if_true]
  rw [if_pos (by simp; omega)]
  have : ((-1 : Int) + ((k + 1 : Nat) : Int)).toNat = k := by omega
  rw [this]
  simp
theorem rep_inj {c d n k : Nat} (h : rep c n = rep d k) : n = k ∧ (c = d ∨ n = 0) := by
  have h1 : n = k := by have := congrArg Str.length h; rwa [rep_len, rep_len] at this
  subst h1
  refine ⟨rfl, ?_⟩
  cases n with
  | zero => exact .inr rfl
  | succ n =>
    have := congrArg Str.cps h
    simp only [rep, List.replicate_succ] at this
    simp at this
    exact .inl this.1
theorem rep_eq {c n k : Nat} (h : n = k) : (rep c n == rep c k) = true := by subst h; simp
theorem rep_ne {c d n k : Nat} (h : n ≠ k) : (rep c n == rep d k) = false := by
  cases e : rep c n == rep d k with
  | false => rfl
  | true => exact absurd (rep_inj (eq_of_beq e)).1 h
theorem rep_ne' {c d n k : Nat} (h : c ≠ d) (hn : 0 < n) : (rep c n == rep d k) = false := by
  cases e : rep c n == rep d k with
  | false => rfl
  | true =>
    rcases (rep_inj (eq_of_beq e)).2 with h1 | h1
    · exact absurd h1 h
    · omega
theorem rep_zero (c d : Nat) : rep c 0 = rep d 0 := rfl
theorem rep_t {c n : Nat} (h : 0 < n) : (((rep c n).length : Int) != 0) = true := by rw [rep_len]; simp; omega
theorem rep_f {c n : Nat} (h : n = 0) : (((rep c n).length : Int) != 0) = false := by subst h; rfl
theorem one_eq (c : Nat) : ((⟨#[c]⟩ : Str) == ⟨#[c]⟩) = true := by simp
theorem one_ne {c d : Nat} (h : c ≠ d) : ((⟨#[c]⟩ : Str) == ⟨#[d]⟩) = false := by simp [h]
theorem ite_yes {c : Bool} {T F : Prop} (h : c = true) (t : T) : if c = true then T else F := by rw [if_pos h]; exact t
theorem ite_no {c : Bool} {T F : Prop} (h : c = false) (f : F) : if c = true then T else F := by rw [if_neg (by rw [h]; exact Bool.false_ne_true)]; exact f
end Mine
namespace Mine
theorem nat_yes {n : Nat} {T F : Prop} (h : n ≠ 0) (t : T) : if ((n : Int) != 0) = true then T else F := ite_yes (by simp; exact h) t
theorem nat_no {n : Nat} {T F : Prop} (h : n = 0) (f : F) : if ((n : Int) != 0) = true then T else F := ite_no (by subst h; rfl) f
theorem nat_ite {n : Nat} {T F : Prop} (t : (n : Int) ≠ 0 → T) (f : (n : Int) = 0 → F) : if ((n : Int) != 0) = true then T else F := by
  by_cases h : n = 0
  · exact nat_no h (f (by omega))
  · exact nat_yes h (t (by omega))
end Mine
namespace Mine
theorem tt_yes {T F : Prop} (t : T) : if true = true then T else F := by rw [if_pos rfl]; exact t
theorem ff_no {T F : Prop} (f : F) : if false = true then T else F := by rw [if_neg Bool.false_ne_true]; exact f
theorem nnat_yes {n : Nat} {T F : Prop} (h : n = 0) (t : T) : if (!((n : Int) != 0)) = true then T else F := ite_yes (by subst h; rfl) t
theorem nnat_no {n : Nat} {T F : Prop} (h : n ≠ 0) (f : F) : if (!((n : Int) != 0)) = true then T else F := ite_no (by simp; exact h) f
theorem dec_no {p : Prop} [Decidable p] {T F : Prop} (h : ¬ p) (f : F) : if decide p = true then T else F := ite_no (decide_eq_false h) f
theorem dec_yes {p : Prop} [Decidable p] {T F : Prop} (h : p) (t : T) : if decide p = true then T else F := ite_yes (decide_eq_true h) t
end Mine
end
section
open PySem PySem.W PyProof.Rows
namespace Mine
local macro_rules | `(tactic| size_fits) => `(tactic| (rw [rep_len, PySem.sizeLine_eq]; omega))
set_option maxRecDepth 100000 in
set_option maxHeartbeats 8000000 in
theorem lev_a (w : World) (ca cb na nb : Nat) (t u v : Tok) (mx : Int) (hc : ca = cb ∨ na = 0 ∨ nb = 0) (hna : na < 100) (hnb : nb < 100) (hne : na ≠ nb) : Pure1 w 110 [.str (rep ca na) t, .str (rep cb nb) u, .int mx v] 3 (fun t => .int (2 * (max na nb - min na nb)) t) := by
  unfold Pure1
  k_fill
  k_with_none
  intro mean mg mb dp un gd cn cs a ccd cl outer A₀ base h₀ L m news s Q E B F X N T hk hd hu hret
  k_with "!MyNf" => (first | rw [rep_len] | rw [slice_rep _ _ _ (by omega) (by omega)] | rw [slice_nn] | rw [item_rep _ _ _ (by omega) (by omega)] | rw [item_rep_last _ _ (by omega)])
  have l1 : (rep ca na).length = na := rep_len ca na
  have l2 : (rep cb nb).length = nb := rep_len cb nb
  k_with "exec While BoolOp" => first
    | k_while (fun _ p => 0 ≤ p ∧ p ≤ (na : Int) ∧ p ≤ (nb : Int)) (fun _ p => na - p.toNat) "pre"
    | (k_here; refine whl_start 100 ?_)
  k_with "truthy str" => first | walk_at "MyNf" | refine SBL.truthy (by rw [rep_len]; omega) ?_
  k_with "call builtin:len" => (refine SBL.len (by rw [rep_len]; omega) ?_; rw [rep_len])
  k_with "storeName" => walk_at "MyNf"
  k_with "compareOp" => walk_at "MyNf"
  k_with "subscriptTail Name Slice str ref" => ((with_reducible show wpAny _ _ (subscriptTail _ (Expr.Slice none (some _) none _) _ _) _ _ _); (with_reducible rename Fr _ _ _ _ => F'); (with_reducible rename News _ _ _ _ => N'); (refine slice_strN_nn (hsz := ?hsz) (s := ⟨_, _, _, _, _⟩) F' N' ?_); (case hsz => (rw [rep_len, PySem.sizeLine_eq]; omega)); intro _ _ _ _ _)
  k_with "ite" => first
    | refine tt_yes ?_
    | refine ff_no ?_
    | rw [rep_len]
    | refine nat_yes (by omega) ?_
    | refine nat_no (by omega) ?_
    | refine nat_ite (fun h9 => ?_) (fun h9 => ?_)
    | refine nnat_yes (by omega) ?_
    | refine nnat_no (by omega) ?_
    | refine ite_no (c := (0 : Int) != 0) rfl ?_
    | refine dec_no (by omega) ?_
    | refine dec_yes (by omega) ?_
    | refine ite_no (rep_ne (by omega)) ?_
    | walk_at "MyNf"
    | refine ite_no (one_ne (by omega)) ?_
    | ((have hcc : ca = cb := by (rcases hc with h9 | h9 | h9 <;> first | exact h9 | (exfalso; omega))); subst hcc; refine ite_yes (one_eq _) ?_)
  refine wpAny_call ?_
  k_dflt cell_enter
  k_steps
  all_goals exact cb_retI hret (by omega) (by assumption) (by assumption)
  k_with_none
end Mine
end
section
open PySem PySem.W PyProof.Rows
namespace Mine
theorem slice_from0 (x : Str) : Txt.slice x (some 0) none = x := by
  rw [slice_eq_from (by omega) (by omega)]
  cases x; simp
theorem slice_rep' {c n k : Nat} {p : Int} (h0 : 0 ≤ p) (h1 : p ≤ n) (hk : k = n - p.toNat) : Txt.slice (rep c n) (some p) none = rep c k := by subst hk; exact slice_rep c n p h0 h1
theorem item_rep_m1 {c n : Nat} {p : Int} (hp : p = -1) (h1 : 0 < n) : Txt.item (rep c n) p = ⟨#[c]⟩ := by subst hp; exact item_rep_last c n h1
theorem zero_no {T F : Prop} (f : F) : if ((0 : Int) != 0) = true then T else F := f
section
variable {prog : Program} {w : World} {A : Around} {E : Value → Shared → Prop} {s : Shared} {value slice : PySem.Expr} {x y : Str} {t u : Tok} {h₀ : Heap} {L : Addr} {m : Str → Option Value} {news : List (Addr × Obj)} {Q : Value → Shared → Prop}
theorem sl_sn {i : Int} {ui : Tok} (e : Txt.slice x (some i) none = y) (hF : Fr h₀ L s.heap m) (hN : News h₀ L s.heap news) (hsz : x.length ≤ 16777216) (h : ∀ h' t' k, Fr h₀ L h' m → News h₀ L h' news → Q (.str y t') { s with heap := h', toks := k })
    (hs : subscripted slice false (.str x t) (.ref s.heap.objs.size) = operate [.ref s.heap.objs.size, .str x t] (getItem (.str x t) (.ref s.heap.objs.size)) := by with_unfolding_all rfl)
    (ht : ∀ r, letTemporaryGo value (.str x t) r = pure () := by intro _; with_unfolding_all rfl) :
    wpAny (model prog w) A (subscriptTail value slice (.str x t) (.ref s.heap.objs.size)) Q E { s with heap := s.heap.push { cls := .type "slice", data := .fields #[.int i ui, .none, .none] } } := by
  subst e; exact slice_strN_sn hF hN h hs ht (by rw [PySem.sizeLine_eq]; exact hsz)
theorem sl_nn (hF : Fr h₀ L s.heap m) (hN : News h₀ L s.heap news) (hsz : x.length ≤ 16777216) (h : ∀ h' t' k, Fr h₀ L h' m → News h₀ L h' news → Q (.str x t') { s with heap := h', toks := k })
    (hs : subscripted slice false (.str x t) (.ref s.heap.objs.size) = operate [.ref s.heap.objs.size, .str x t] (getItem (.str x t) (.ref s.heap.objs.size)) := by with_unfolding_all rfl)
    (ht : ∀ r, letTemporaryGo value (.str x t) r = pure () := by intro _; with_unfolding_all rfl) :
    wpAny (model prog w) A (subscriptTail value slice (.str x t) (.ref s.heap.objs.size)) Q E { s with heap := s.heap.push { cls := .type "slice", data := .fields #[.none, .none, .none] } } := by
  refine slice_strN_nn hF hN (fun h' t' k a b => ?_) hs ht (by rw [PySem.sizeLine_eq]; exact hsz)
  rw [slice_nn]; exact h h' t' k a b
theorem sl_ns {j : Int} {uj : Tok} (e : Txt.slice x none (some j) = y) (hF : Fr h₀ L s.heap m) (hN : News h₀ L s.heap news) (hsz : x.length ≤ 16777216) (h : ∀ h' t' k, Fr h₀ L h' m → News h₀ L h' news → Q (.str y t') { s with heap := h', toks := k })
    (hs : subscripted slice false (.str x t) (.ref s.heap.objs.size) = operate [.ref s.heap.objs.size, .str x t] (getItem (.str x t) (.ref s.heap.objs.size)) := by with_unfolding_all rfl)
    (ht : ∀ r, letTemporaryGo value (.str x t) r = pure () := by intro _; with_unfolding_all rfl) :
    wpAny (model prog w) A (subscriptTail value slice (.str x t) (.ref s.heap.objs.size)) Q E { s with heap := s.heap.push { cls := .type "slice", data := .fields #[.none, .int j uj, .none] } } := by
  subst e; exact slice_strN_ns hF hN h hs ht (by rw [PySem.sizeLine_eq]; exact hsz)
theorem sl_ss {i j : Int} {ui uj : Tok} (e : Txt.slice x (some i) (some j) = y) (hF : Fr h₀ L s.heap m) (hN : News h₀ L s.heap news) (hsz : x.length ≤ 16777216) (h : ∀ h' t' k, Fr h₀ L h' m → News h₀ L h' news → Q (.str y t') { s with heap := h', toks := k })
    (hs : subscripted slice false (.str x t) (.ref s.heap.objs.size) = operate [.ref s.heap.objs.size, .str x t] (getItem (.str x t) (.ref s.heap.objs.size)) := by with_unfolding_all rfl)
    (ht : ∀ r, letTemporaryGo value (.str x t) r = pure () := by intro _; with_unfolding_all rfl) :
    wpAny (model prog w) A (subscriptTail value slice (.str x t) (.ref s.heap.objs.size)) Q E { s with heap := s.heap.push { cls := .type "slice", data := .fields #[.int i ui, .int j uj, .none] } } := by
  subst e; exact slice_strN_ss hF hN h hs ht (by rw [PySem.sizeLine_eq]; exact hsz)
theorem it_e {i : Int} (e : Txt.item x i = y) (h0 : -(x.length : Int) ≤ i) (h1 : i < (x.length : Int)) (hn : x.length ≤ 16777216) (h : Q (.str y s.toks) { s with toks := s.toks + 1 })
    (hs : subscripted slice false (.str x t) (.int i u) = operate [.str x t, .int i u] (getItem (.str x t) (.int i u)) := by with_unfolding_all rfl)
    (ht : ∀ r, letTemporaryGo value (.str x t) r = pure () := by intro _; with_unfolding_all rfl) :
    wpAny (model prog w) A (subscriptTail value slice (.str x t) (.int i u)) Q E s := by
  subst e
  exact KXi.item rfl h0 h1 hn (fun _ => h) hs ht
theorem len_e {n : Nat} (e : x.length = n) (hn : n ≤ 16777216) (h : Q (.int n (s.toks + 1)) { s with toks := s.toks + 1 + 1 }) : wpAny (model prog w) A (call (.builtin "len") [.str x t]) Q E s := by
  subst e
  exact SBL.len (by omega) h
theorem tru_e {Q : Bool → Shared → Prop} {n : Nat} {b : Bool} (e : x.length = n) (hn : n ≤ 16777216) (hb : decide (n ≠ 0) = b) (h : Q b { s with toks := s.toks + 1 + 1 }) : wpAny (model prog w) A (PySem.truthy (.str x t)) Q E s := by
  refine SBL.truthy (by omega) ?_
  have : ((x.length : Int) != 0) = b := by
    subst e; rw [← hb]
    by_cases h9 : x.length = 0
    · simp [h9]
    · have : ¬ ((x.length : Int) = 0) := by omega
      simp [h9]
  rw [this]; exact h
theorem cmp_e {b : Bool} (e : (x == y) = b) (h : Q (.bool b) s) : wpAny (model prog w) A (compareOp .Eq (.str x t) (.str y u)) Q E s := by
  subst e
  exact eq_str h
end
end Mine
end
section
open PySem PySem.W PySem.Calls PySem.Spec PyProof.Rows
namespace Mine
/-- the row's length n, k places of it turned, at the i-th letter -/
noncomputable def lrow (n i k : Nat) : List Int := (List.range n).map fun j => if j < k then 2 * ((max (i + 1) (j + 1) : Nat) : Int) else 2 * ((max i (j + 1) : Nat) : Int)
theorem lrow_len (n i k : Nat) : (lrow n i k).length = n := by simp [lrow]
theorem lrow_get {n i k j : Nat} (h : j < n) : (lrow n i k).getD j 0 = if j < k then 2 * ((max (i + 1) (j + 1) : Nat) : Int) else 2 * ((max i (j + 1) : Nat) : Int) := by
  simp [lrow, h]
theorem lrow_set {n i k : Nat} {v : Int} (h : k < n) (hv : v = 2 * ((max (i + 1) (k + 1) : Nat) : Int)) : (lrow n i k).set k v = lrow n i (k + 1) := by
  subst hv
  apply List.ext_getElem
  · simp [lrow]
  · intro j h1 h2
    simp only [lrow, List.length_map, List.length_range, List.length_set] at h1 h2
    simp only [lrow, List.getElem_set, List.getElem_map, List.getElem_range]
    by_cases hjk : k = j
    · subst hjk; simp
    · by_cases h3 : j < k
      · simp [hjk, h3, show j < k + 1 by omega]
      · simp [hjk, h3, show ¬ j < k + 1 by omega]
theorem lrow_next {n i : Nat} : lrow n i n = lrow n (i + 1) 0 := by
  unfold lrow
  apply List.map_congr_left
  intro j hj
  have := List.mem_range.mp hj
  rw [if_pos this, if_neg (by omega)]
theorem lrow_zero {n : Nat} : ((List.range n).map fun j : Nat => (2 : Int) + (j : Int) * 2) = lrow n 0 0 := by
  unfold lrow
  apply List.map_congr_left
  intro j _
  rw [if_neg (by omega)]; omega
theorem ints_of_get : ∀ (vs : List Value) (ns : List Int), vs.length = ns.length → (∀ (j : Nat) (v : Value), vs[j]? = some v → ∃ t, v = .int (ns.getD j 0) t) → IntsAre vs ns
  | [], [], _, _ => IntsAre.nil
  | [], _ :: _, e, _ => by simp at e
  | _ :: _, [], e, _ => by simp at e
  | v :: r, n :: ns, e, h => by
    obtain ⟨t, ht⟩ := h 0 v rfl
    have hv : v = .int n t := by rw [ht]; rfl
    subst hv
    refine IntsAre.cons _ _ (ints_of_get r ns (by simpa using e) fun j v hj => ?_)
    exact h (j + 1) v hj
section
variable {prog : Program} {w : World} {A : Around} {E : Value → Shared → Prop} {s : Shared} {h₀ : Heap} {L l r : Addr} {m : Str → Option Value} {news : List (Addr × Obj)} {a b c : Int} {t₀ u₀ v₀ : Tok} {n : Nat} {Q : Value → Shared → Prop}
theorem list_range2 (hh : A.handled = none) (F : Fr h₀ L s.heap m) (N : News h₀ L s.heap news) (hr : IsRange s.heap r a b c t₀ u₀ v₀) (hsmall : Builtin.Range.small a b c = true) (hn : Builtin.Range.rangeSize a b c = (n : Int)) (hz : n ≤ 2 ^ 24)
    (h : ∀ D us c' h' tk, Fr h₀ L h' m → News h₀ L h' ((D, listOf (List.toArray us) c') :: news) → (∀ p ∈ news, p.1 < D) → IntsAre us ((List.range n).map fun j : Nat => a + (j : Int) * c) → Q (.ref D) { s with heap := h', toks := tk }) :
    wpAny (model prog w) A (call (.type "list") [.ref r]) Q E s := by
  refine call_list_range hh hr hsmall hn hz fun h' tk acc c' hk hD hI => ?_
  have hD' : h'.get? s.heap.objs.size = some (listOf (List.toArray acc.toList) c') := by
    rw [Array.toArray_toList]
    exact hD
  refine h _ acc.toList c' h' tk (F.keeps hk) (news_pushed F N hk hD' rfl) (fun p hp => Heap.lt_size (N p hp).1) (ints_of_get _ _ (by rw [Array.length_toList]; simpa using hI.1) fun j v hj => ?_)
  have hj' : acc[j]? = some v := by rw [← hj, Array.getElem?_toList]
  obtain ⟨t, e⟩ := hI.2 j v hj'
  have hjn : j < n := by
    have := (Array.getElem?_eq_some_iff.mp hj').1
    rw [hI.1] at this; exact this
  exact ⟨t, by rw [e]; simp [hjn]⟩
theorem small_two {b : Int} (h0 : 2 ≤ b) (h1 : b ≤ 100) : Builtin.Range.small 2 b 2 = true := by
  have : ∀ k : Nat, k ≤ 100 → Builtin.Range.small 2 (k : Int) 2 = true := by decide +kernel
  have := this b.toNat (by omega)
  rwa [Int.toNat_of_nonneg (by omega)] at this
theorem size_two {n : Nat} (h : n ≤ 40) : Builtin.Range.rangeSize 2 (2 * ((n : Int) + 1)) 2 = (n : Int) := by
  have : ∀ k : Nat, k ≤ 40 → Builtin.Range.rangeSize 2 (2 * ((k : Int) + 1)) 2 = (k : Int) := by decide +kernel
  exact this n h
end
/-- between the outer turns -/
structure WOut (n p : Nat) (result : Int) (row : List Int) : Prop where
  row : row = lrow n p 0
  zero : p = 0 → result = 0
  pos : 0 < p → result = 2 * ((max p n : Nat) : Int)
/-- between the inner turns -/
structure WIn (n i k : Nat) (d r : Int) (row : List Int) (mn : Int) : Prop where
  d : d = 2 * ((max i k : Nat) : Int)
  row : row = lrow n i k
  zero : k = 0 → r = 2 * (i : Int) ∧ mn = 9223372036854775807
  pos : 0 < k → r = 2 * ((max (i + 1) k : Nat) : Int) ∧ mn = 2 * ((i : Int) + 1)
theorem WOut.start {n : Nat} {us : List Int} (h : us = lrow n 0 0) : WOut n 0 0 us := ⟨h, fun _ => rfl, fun h => absurd h (Nat.lt_irrefl _)⟩
theorem WIn.start {n i : Nat} {r : Int} {row : List Int} (h : WOut n i r row) {x y : Int} (hx : x = 2 * i) (hy : y = 2 * i) : WIn n i 0 x y row 9223372036854775807 :=
  ⟨by omega, h.row, fun _ => ⟨hy, rfl⟩, fun h => absurd h (Nat.lt_irrefl _)⟩
theorem WIn.item {n i k : Nat} {d r : Int} {row : List Int} {mn : Int} (W : WIn n i k d r row mn) (hk : k < n) : row.getD k 0 = 2 * ((max i (k + 1) : Nat) : Int) := by
  rw [W.row, lrow_get hk, if_neg (by omega)]
theorem WIn.res {n i k : Nat} {d r : Int} {row : List Int} {mn : Int} (W : WIn n i k d r row mn) (hk : k < n) : min (min r (row.getD k 0) + 2) (d + 2) = 2 * ((max (i + 1) (k + 1) : Nat) : Int) := by
  have h1 := W.item hk
  have h2 := W.d
  by_cases h0 : k = 0
  · have := (W.zero h0).1; omega
  · have := (W.pos (by omega)).1; omega
theorem WIn.turn {n i k : Nat} {d r : Int} {row : List Int} {mn x y z : Int} (W : WIn n i k d r row mn) (hk : k < n) {row' : List Int} (hx : x = row.getD k 0) (hy : y = min (min r (row.getD k 0) + 2) (d + 2)) (hr : row' = row.set k y) (hz : (y < mn ∧ z = y) ∨ (¬ y < mn ∧ z = mn)) (hi : i ≤ 100) (hkk : k ≤ 100) : WIn n i (k + 1) x y row' z := by
  have h3 := W.res hk
  have h1 := W.item hk
  subst hr hx
  refine ⟨h1, by rw [W.row]; exact lrow_set hk (by rw [hy, h3]), fun h => absurd h (by omega), fun _ => ⟨by rw [hy, h3], ?_⟩⟩
  rw [hy, h3] at hz
  by_cases h0 : k = 0
  · have := (W.zero h0).2; omega
  · have := (W.pos (by omega)).2; omega
theorem WOut.turn {n i : Nat} {d r : Int} {row : List Int} {mn : Int} (W : WIn n i n d r row mn) (hn : 0 < n) : WOut n (i + 1) r row :=
  ⟨by rw [W.row, lrow_next], fun h => absurd h (by omega), fun _ => (W.pos hn).1⟩
theorem st_out0 {n : Nat} : (lrow n 0 0).length = n ∧ WOut n ([] : List Int).length 0 (lrow n 0 0) := ⟨lrow_len _ _ _, WOut.start rfl⟩
theorem st_in0 {n p : Nat} {kN r : Int} {row : List Int} (e : kN = 0 + (p : Int)) (l : row.length = n) (W : WOut n p r row) : 0 ≤ kN ∧ row.length = n ∧ WIn n kN.toNat ([] : List Int).length (kN * 2) (kN * 2) row 9223372036854775807 := by
  have : kN.toNat = p := by omega
  exact ⟨by omega, l, WIn.start (by rw [this]; exact W) (by omega) (by omega)⟩
theorem ite_min {a b : Int} : (if a < b then a else b) = min b a := by
  by_cases h : a < b
  · rw [if_pos h]; omega
  · rw [if_neg h]; omega
theorem st_inA {n k : Nat} {pre : List Int} {i kN d r mn : Int} {row : List Int} (i0 : 0 ≤ i) (l : row.length = n) (W : WIn n i.toNat pre.length d r row mn) (e : kN = 0 + (pre.length : Int)) (hk : pre.length < ((n : Int) - 0).toNat) (hn : n ≤ k) (hi : i.toNat ≤ 100) (hk100 : k ≤ 100)
    (hlt : (if d + 2 < (if row.getD kN.toNat 0 < r then row.getD kN.toNat 0 else r) + 2 then d + 2 else (if row.getD kN.toNat 0 < r then row.getD kN.toNat 0 else r) + 2) < mn) :
    0 ≤ i ∧ (row.set kN.toNat (if d + 2 < (if row.getD kN.toNat 0 < r then row.getD kN.toNat 0 else r) + 2 then d + 2 else (if row.getD kN.toNat 0 < r then row.getD kN.toNat 0 else r) + 2)).length = n ∧
      WIn n i.toNat (pre ++ [kN]).length (row.getD kN.toNat 0) (if d + 2 < (if row.getD kN.toNat 0 < r then row.getD kN.toNat 0 else r) + 2 then d + 2 else (if row.getD kN.toNat 0 < r then row.getD kN.toNat 0 else r) + 2)
        (row.set kN.toNat (if d + 2 < (if row.getD kN.toNat 0 < r then row.getD kN.toNat 0 else r) + 2 then d + 2 else (if row.getD kN.toNat 0 < r then row.getD kN.toNat 0 else r) + 2))
        (if d + 2 < (if row.getD kN.toNat 0 < r then row.getD kN.toNat 0 else r) + 2 then d + 2 else (if row.getD kN.toNat 0 < r then row.getD kN.toNat 0 else r) + 2) := by
  simp only [ite_min] at hlt ⊢
  have e2 : kN.toNat = pre.length := by omega
  rw [e2] at hlt ⊢
  refine ⟨i0, by rw [List.length_set]; exact l, ?_⟩
  rw [List.length_append, List.length_singleton]
  exact W.turn (by omega) rfl rfl rfl (.inl ⟨hlt, rfl⟩) (by omega) (by omega)
theorem st_inB {n k : Nat} {pre : List Int} {i kN d r mn : Int} {row : List Int} (i0 : 0 ≤ i) (l : row.length = n) (W : WIn n i.toNat pre.length d r row mn) (e : kN = 0 + (pre.length : Int)) (hk : pre.length < ((n : Int) - 0).toNat) (hn : n ≤ k) (hi : i.toNat ≤ 100) (hk100 : k ≤ 100)
    (hlt : ¬ (if d + 2 < (if row.getD kN.toNat 0 < r then row.getD kN.toNat 0 else r) + 2 then d + 2 else (if row.getD kN.toNat 0 < r then row.getD kN.toNat 0 else r) + 2) < mn) :
    0 ≤ i ∧ (row.set kN.toNat (if d + 2 < (if row.getD kN.toNat 0 < r then row.getD kN.toNat 0 else r) + 2 then d + 2 else (if row.getD kN.toNat 0 < r then row.getD kN.toNat 0 else r) + 2)).length = n ∧
      WIn n i.toNat (pre ++ [kN]).length (row.getD kN.toNat 0) (if d + 2 < (if row.getD kN.toNat 0 < r then row.getD kN.toNat 0 else r) + 2 then d + 2 else (if row.getD kN.toNat 0 < r then row.getD kN.toNat 0 else r) + 2)
        (row.set kN.toNat (if d + 2 < (if row.getD kN.toNat 0 < r then row.getD kN.toNat 0 else r) + 2 then d + 2 else (if row.getD kN.toNat 0 < r then row.getD kN.toNat 0 else r) + 2)) mn := by
  simp only [ite_min] at hlt ⊢
  have e2 : kN.toNat = pre.length := by omega
  rw [e2] at hlt ⊢
  refine ⟨i0, by rw [List.length_set]; exact l, ?_⟩
  rw [List.length_append, List.length_singleton]
  exact W.turn (by omega) rfl rfl rfl (.inr ⟨hlt, rfl⟩) (by omega) (by omega)
theorem st_out1 {n : Nat} {pre : List Int} {kN d r mn : Int} {row : List Int} (l : row.length = n) (W : WIn n kN.toNat (rangeKs 0 ((n : Int) - 0).toNat).length d r row mn) (e : kN = 0 + (pre.length : Int)) (hn : 0 < n) : row.length = n ∧ WOut n (pre ++ [kN]).length r row := by
  have e2 : kN.toNat = pre.length := by omega
  have e3 : (rangeKs 0 ((n : Int) - 0).toNat).length = n := by rw [rangeKs_length]; omega
  rw [e3, e2] at W
  refine ⟨l, ?_⟩
  rw [List.length_append, List.length_singleton]
  exact WOut.turn W hn
theorem st_bad {n M : Nat} {pre : List Int} {kN d r mn mx : Int} {row : List Int} (W : WIn n kN.toNat (rangeKs 0 ((n : Int) - 0).toNat).length d r row mn) (e : kN = 0 + (pre.length : Int)) (hk : pre.length < ((M : Int) - 0).toNat) (hn : 0 < n) (hx : 2 * (M : Int) ≤ mx) (hlt : mx < mn) : False := by
  have e3 : (rangeKs 0 ((n : Int) - 0).toNat).length = n := by rw [rangeKs_length]; omega
  rw [e3] at W
  have := (W.pos hn).2
  omega
theorem st_fin {n M : Nat} {r : Int} {row : List Int} (W : WOut n (rangeKs 0 ((M : Int) - 0).toNat).length r row) (hn : n ≤ M) (hM : 0 < M) : r = 2 * (M : Int) := by
  have e3 : (rangeKs 0 ((M : Int) - 0).toNat).length = M := by rw [rangeKs_length]; omega
  rw [e3] at W
  have := W.pos hM
  omega
end Mine
end
section
open PySem PySem.W PyProof.Rows
namespace Mine
/-- the two texts behind the swap: the shorter one is a -/
def SwapAt (na nb : Nat) (mx : Int) (ca cb p q : Nat) : Prop := ((ca = 34 ∧ cb = 66) ∨ (ca = 66 ∧ cb = 34)) ∧ 0 < p ∧ p ≤ q ∧ q ≤ 5 ∧ q = max na nb ∧ 2 * ((p : Int) + q) ≤ mx
noncomputable abbrev swapF (mx : Int) (v : Tok) (ca cb p q : Nat) (ta tb : Tok) (m : Str → Option Value) : Str → Option Value :=
  fun y => if y = Str.ofString "b" then some (.str (rep cb q) tb) else if y = Str.ofString "a" then some (.str (rep ca p) ta) else if y = Str.ofString "max_cost" then some (.int mx v) else m y
def SwapMid (na nb : Nat) (mx : Int) (v : Tok) (h₀ : Heap) (L : Addr) (news : List (Addr × Obj)) (s s' : Shared) : Prop :=
  ∃ (ca cb p q : Nat) (ta tb : Tok) (m : Str → Option Value) (h : Heap) (tk : Nat), s' = { s with heap := h, toks := tk } ∧ SwapAt na nb mx ca cb p q ∧ Fr h₀ L h (swapF mx v ca cb p q ta tb m) ∧ News h₀ L h news
theorem swap_fr {mx : Int} {v : Tok} {ca cb p q : Nat} {ta tb : Tok} {m : Str → Option Value} (h1 : m (Str.ofString "b") = some (.str (rep cb q) tb)) (h2 : m (Str.ofString "a") = some (.str (rep ca p) ta)) (h3 : m (Str.ofString "max_cost") = some (.int mx v)) : m = swapF mx v ca cb p q ta tb m := by
  funext y
  unfold swapF
  by_cases e1 : y = Str.ofString "b"
  · rw [if_pos e1, e1, h1]
  · rw [if_neg e1]
    by_cases e2 : y = Str.ofString "a"
    · rw [if_pos e2, e2, h2]
    · rw [if_neg e2]
      by_cases e3 : y = Str.ofString "max_cost"
      · rw [if_pos e3, e3, h3]
      · rw [if_neg e3]
theorem swap_mk {na nb : Nat} {mx : Int} {v : Tok} {h₀ : Heap} {L : Addr} {news : List (Addr × Obj)} {s : Shared} {Q : Flow → Shared → Prop} {ca cb p q : Nat} {ta tb : Tok} {m : Str → Option Value} {h : Heap} {tk : Nat} (hq : ∀ s', SwapMid na nb mx v h₀ L news s s' → Q .next s')
    (F : Fr h₀ L h m) (N : News h₀ L h news) (h1 : m (Str.ofString "b") = some (.str (rep cb q) tb)) (h2 : m (Str.ofString "a") = some (.str (rep ca p) ta)) (h3 : m (Str.ofString "max_cost") = some (.int mx v)) (hs : SwapAt na nb mx ca cb p q) : Q .next { s with heap := h, toks := tk } :=
  hq _ ⟨ca, cb, p, q, ta, tb, m, h, tk, rfl, hs, swap_fr h1 h2 h3 ▸ F, N⟩
theorem swap_no {na nb : Nat} {mx : Int} (h : na ≤ nb) (ha : 0 < na) (hnb : nb ≤ 5) (hmx : 2 * (na + nb) ≤ mx) : SwapAt na nb mx 34 66 na nb := ⟨.inl ⟨rfl, rfl⟩, ha, h, hnb, by omega, by omega⟩
theorem swap_yes {na nb : Nat} {mx : Int} (h : nb < na) (hb : 0 < nb) (hna : na ≤ 5) (hmx : 2 * (na + nb) ≤ mx) : SwapAt na nb mx 66 34 nb na := ⟨.inr ⟨rfl, rfl⟩, hb, by omega, hna, by omega, by omega⟩
theorem swap_cost {ca cb : Nat} (h : (ca = 34 ∧ cb = 66) ∨ (ca = 66 ∧ cb = 34)) : ((⟨#[cb]⟩ : Str) = ⟨#[34]⟩ ∧ (⟨#[ca]⟩ : Str) = ⟨#[66]⟩) ∨ ((⟨#[cb]⟩ : Str) = ⟨#[66]⟩ ∧ (⟨#[ca]⟩ : Str) = ⟨#[34]⟩) := by
  rcases h with ⟨rfl, rfl⟩ | ⟨rfl, rfl⟩
  · exact .inr ⟨rfl, rfl⟩
  · exact .inl ⟨rfl, rfl⟩
theorem lev_end {q k : Nat} {r : Int} (h : q = k) (e : r = 2 * (q : Int)) : r = 2 * (k : Int) := by subst h; exact e
section
variable {M : Model} {A : Around} {E : Value → Shared → Prop} {env : Env} {Q : Flow → Shared → Prop} {s : Shared} {s1 : Stmt} {rest : List Stmt}
theorem swap_cut (na nb : Nat) (mx : Int) (v : Tok) {h₀ : Heap} {L : Addr} {m : Str → Option Value} {news : List (Addr × Obj)} (_ : Fr h₀ L s.heap m) (_ : News h₀ L s.heap news)
    (head : ∀ Q₁ : Flow → Shared → Prop, (∀ s', SwapMid na nb mx v h₀ L news s s' → Q₁ .next s') → wpAny M A (execs [s1] env) Q₁ E s)
    (tail : ∀ (ca cb p q : Nat) (ta tb : Tok) (m : Str → Option Value) (h : Heap) (tk : Nat), (ca = 34 ∧ cb = 66) ∨ (ca = 66 ∧ cb = 34) → 0 < p → p ≤ q → q ≤ 5 → q = max na nb → 2 * ((p : Int) + q) ≤ mx → Fr h₀ L h (swapF mx v ca cb p q ta tb m) → News h₀ L h news → wpAny M A (execs rest env) Q E { s with heap := h, toks := tk }) :
    wpAny M A (execs (s1 :: rest) env) Q E s :=
  execs_cut1 (P := SwapMid na nb mx v h₀ L news s) (head _ fun s' hs => hs) fun s' ⟨ca, cb, p, q, ta, tb, m, h, tk, e, ⟨a1, a2, a3, a4, a5, a6⟩, F, N⟩ => e ▸ tail ca cb p q ta tb m h tk a1 a2 a3 a4 a5 a6 F N
end
end Mine
end
section
open PySem PySem.W PyProof.Rows
namespace Mine
set_option maxRecDepth 100000 in
set_option maxHeartbeats 4000000 in
theorem lev_b (w : World) (na nb : Nat) (t u v : Tok) (mx : Int) (hna : na ≤ 5) (hnb : nb ≤ 5) (ha : 0 < na) (hb : 0 < nb) (hmx : 2 * (na + nb) ≤ mx) : Pure1 w 110 [.str (rep 34 na) t, .str (rep 66 nb) u, .int mx v] 5 (fun t => .int (2 * ((max na nb : Nat) : Int)) t) := by
  unfold Pure1
  k_fill
  k_with_none
  intro mean mg mb dp un gd cn cs a ccd cl outer A₀ base h₀ L m news s Q E B F X N T hk hd hu hret
  k_with "!MyLen" => (first | omega | (rw [rep_len]; omega))
  k_with "!subscriptTail Name Slice str ref" => (((with_reducible rename Fr _ _ _ _ => F'); (with_reducible rename News _ _ _ _ => N'); first
    | (refine sl_nn (s := ⟨_, _, _, _, _⟩) F' N' (by walk_at "MyLen") ?_; intro _ _ _ _ _; (try dsimp only))
    | (refine sl_sn (s := ⟨_, _, _, _, _⟩) (slice_from0 _) F' N' (by walk_at "MyLen") ?_; intro _ _ _ _ _; (try dsimp only))
    | (refine sl_sn (s := ⟨_, _, _, _, _⟩) (slice_rep' (by omega) (by omega) rfl) F' N' (by walk_at "MyLen") ?_; intro _ _ _ _ _; (try dsimp only))))
  k_with "!subscriptTail Name Name str int" => ((refine it_e (item_rep _ _ _ (by omega) (by omega)) (by walk_at "MyLen") (by walk_at "MyLen") (by walk_at "MyLen") ?_; (try dsimp only)))
  k_with "!subscriptTail Name BinOp str int" => ((refine it_e (item_rep_m1 (by omega) (by omega)) (by walk_at "MyLen") (by walk_at "MyLen") (by walk_at "MyLen") ?_; (try dsimp only)))
  k_with "!truthy str" => (first
     | (refine tru_e (rep_len _ _) (by omega) (b := true) (decide_eq_true (by omega)) ?_)
     | (refine tru_e (rep_len _ _) (by omega) (b := false) (decide_eq_false (by omega)) ?_))
  k_with "!call builtin:len" => ((refine len_e (rep_len _ _) (by omega) ?_))
  k_with "!compareOp Eq str str" => (first
     | (refine cmp_e (b := false) (one_ne (by omega)) ?_)
     | (refine cmp_e (b := false) (rep_ne' (by omega) (by omega)) ?_))
  k_with "!ite" => (first
      | with_reducible refine tt_yes ?_
      | with_reducible refine ff_no ?_
      | ((with_reducible refine nat_yes ?h9 ?_); (case h9 => omega))
      | ((with_reducible refine nat_no ?h9 ?_); (case h9 => omega))
      | ((with_reducible refine nnat_yes ?h9 ?_); (case h9 => omega))
      | ((with_reducible refine nnat_no ?h9 ?_); (case h9 => omega))
      | (with_reducible refine zero_no ?_)
      | ((with_reducible refine dec_no ?h9 ?_); (case h9 => omega))
      | ((with_reducible refine dec_yes ?h9 ?_); (case h9 => omega)))
  k_with "!call type:list" => (((rename IsRange _ _ _ _ _ _ _ _ => rgX); (refine list_range2 (s := ⟨_, _, _, _, _⟩) rfl (by assumption) (by assumption) rgX (small_two (by omega) (by omega)) (size_two (by omega)) (by omega) ?_); intro D' us' c' h' tk' F' N' l1 hI'; (try rw [lrow_zero] at hI'); (try k_lt l1); (try k_sweep)))
  k_with "!MyUse" => (((case k1 => k_asm); (case k2 => k_asm); (case k3 => k_asm); (case k4 => k_asm); (case k5 => k_asm); (case kK => first | exact rfl | assumption); (case kd => ktr_room); (case ku => ktr_units); intro t9 h9 tk9 F9 N9; (try dsimp only); (try k_fold)))
  k_with "!call ref" => (((with_reducible show wpAny _ _ (call (Value.ref 103) _) _ _ _); (refine' Pure1.use (subst_c _ _ _ _ _ ?kh) ?k1 ?k2 ?k3 ?k4 ?k5 ?kK ?kd ?ku ?_); (case kh => exact swap_cost hc9); walk_at "MyUse"))
  k_with "!MyMem" => (first
     | assumption
     | exact List.Mem.head _
     | (refine List.Mem.tail _ ?_; walk_at "MyMem")
     | (refine List.mem_append.mpr (Or.inl ?_); walk_at "MyMem")
     | (refine List.mem_append.mpr (Or.inr ?_); walk_at "MyMem"))
  k_with "!MyIn" => (first
     | exact List.forall_mem_nil _
     | ((refine List.forall_mem_cons.mpr ⟨?yh, ?yt⟩); (case yh => walk_at "MyMem"); (case yt => walk_at "MyIn"))
     | ((refine List.forall_mem_append.mpr ⟨?yh, ?yt⟩); (case yh => walk_at "MyIn"); (case yt => walk_at "MyIn"))
     | (intro p9 h9; walk_at "MyMem"))
  k_with "!InvEndN" => (k_dflt ((rename News _ _ _ _ => nE'); (try simp only [List.push_toArray] at nE'); (first
      | (refine' kst_end ⟨_, _, _, _, _⟩ ?yF nE' ?yn ?yo ?ya ?yf ?yk ?yr ?yp; (case yF => assumption); (case yn => ((try dsimp only); walk_at "MyIn")); (case yo => walk_at "MyIn"); (case ya => exact rfl); (case yf => kst_facts); (case yk => kst_all); (case yr => kst_same); (case yp => kst_p))
      | (refine' kst_end ⟨_, _, _, _, _, _, _, _, _⟩ ?yF nE' ?yn ?yo ?ya ?yf ?yk ?yr ?yp; (case yF => assumption); (case yn => ((try dsimp only); walk_at "MyIn")); (case yo => walk_at "MyIn"); (case ya => exact rfl); (case yf => kst_facts); (case yk => kst_all); (case yr => kst_same); (case yp => kst_p)))))
  k_with "!execs cons" => ((with_reducible show wpAny _ _ (execs (Stmt.If (PySem.Expr.Compare (PySem.Expr.Call _ _ _ _) [CmpOp.Lt] _ _) _ _ _ :: _) _) _ _ _); (with_reducible rename Fr _ _ _ _ => F9); (with_reducible rename News _ _ _ _ => N9); (k_dflt (refine' swap_cut na nb mx v F9 N9 ?head ?tail)); (case' head => (intro Q9 hqH; (try dsimp only))); (case' tail => (clear F9 N9; intro ca cb p q ta tb m9 h9 tk9 hc9 hp9 hpq hq9 hm9 hx9 F9 N9; (try dsimp only))))
  k_with "exec While BoolOp" => (k_here; refine whl_start 100 ?_)
  k_with "pyIter ref" => (k_of "bindex" => k_state (fun pre result row => row.length = p ∧ WOut p pre.length result row) "result" "row")
  k_with "pyIter ref" => (k_of "index" => k_state_given ["bindex"] (fun bi pre distance result row minimum => 0 ≤ bi ∧ row.length = p ∧ WIn p bi.toNat pre.length distance result row minimum) "distance" "result" "row" "minimum")
  k_with "state" => first
    | exact st_out0
    | exact st_in0 (by assumption) (by assumption) (by assumption)
    | exact st_inA (by assumption) (by assumption) (by assumption) (by assumption) (by assumption) (Nat.le_refl _) (by omega) (by omega) (by assumption)
    | exact st_inB (by assumption) (by assumption) (by assumption) (by assumption) (by assumption) (Nat.le_refl _) (by omega) (by omega) (by assumption)
    | exact st_out1 (by assumption) (by assumption) (by assumption) (by assumption)
  refine wpAny_call ?_
  k_dflt cell_enter
  k_steps
  all_goals (first
    | exact swap_mk hqH (by assumption) (by assumption) rfl rfl rfl (swap_no (by omega) ha hnb hmx)
    | (refine' swap_mk hqH ?yF (cb_drop ?yN ?yS) ?y1 ?y2 ?y3 ?y4; (case yF => assumption); (case yN => assumption); (case yS => walk_at "MyIn"); (case y1 => rfl); (case y2 => rfl); (case y3 => rfl); (case y4 => exact swap_yes (by omega) hb hna hmx))
    | exact absurd (by assumption) (st_bad (by assumption) (by assumption) (by assumption) (by assumption) (by omega))
    | (refine' cb_retI hret (lev_end hm9 (st_fin (by assumption) (by omega) (by omega))) (by assumption) (cb_drop ?yN ?yS); (case yN => assumption); (case yS => walk_at "MyIn")))
  k_with_none
end Mine
end
section
open PySem PySem.W PyProof.Rows
namespace Mine
theorem Pure1.mono {w : World} {f : Addr} {vs : List Value} {n k : Nat} {R : Tok → Value} (C : Pure1 w f vs n R) (h : n ≤ k) : Pure1 w f vs k R := by
  intro mean mg mb dp un gd cn cs a ccd cl outer A₀ base h₀ L m news s Q E B F X N T hk hd hu hret
  exact C _ _ _ _ _ _ _ _ _ _ _ _ _ _ _ _ _ _ _ _ _ B F X N T hk (by omega) (by omega) hret
theorem Pure1.of_eq {w : World} {f : Addr} {vs : List Value} {n : Nat} {R R' : Tok → Value} (C : Pure1 w f vs n R) (h : R = R') : Pure1 w f vs n R' := h ▸ C
section
set_option maxRecDepth 100000 in
set_option maxHeartbeats 4000000 in
theorem lev_e (w : World) (x : Str) (t u v : Tok) (mx : Int) : Pure1 w 110 [.str x t, .str x u, .int mx v] 5 (fun t => .int 0 t) := by
  unfold Pure1
  k_fill
  k_with_none
  intro mean mg mb dp un gd cn cs a ccd cl outer A₀ base h₀ L m news s Q E B F X N T hk hd hu hret
  k_with "!compareOp Eq str str" => ((refine cmp_e (b := true) (by simp) ?_))
  k_with "!ite" => (with_reducible refine tt_yes ?_)
  refine wpAny_call ?_
  k_dflt cell_enter
  k_steps
  all_goals exact cb_retI hret rfl (by assumption) (by assumption)
end
theorem lev_q (w : World) (na nb : Nat) (t u v : Tok) (mx : Int) (hna : na ≤ 30) (hnb : nb ≤ 30) : Pure1 w 110 [.str (rep 34 na) t, .str (rep 34 nb) u, .int mx v] 5 (fun t => .int (2 * ((max na nb - min na nb : Nat) : Int)) t) := by
  by_cases h : na = nb
  · subst h
    refine (lev_e w _ t u v mx).of_eq ?_
    funext t
    simp
  · refine ((lev_a w 34 34 na nb t u v mx (.inl rfl) (by omega) (by omega) h).mono (by omega)).of_eq ?_
    funext t
    congr 1
    omega
theorem lev_ql (w : World) (na nb : Nat) (t u v : Tok) (mx : Int) (hna : na ≤ 5) (hnb : nb ≤ 5) (hmx : 2 * (na + nb) ≤ mx) : Pure1 w 110 [.str (rep 34 na) t, .str (rep 66 nb) u, .int mx v] 5 (fun t => .int (2 * ((max na nb : Nat) : Int)) t) := by
  by_cases h0 : na = 0 ∨ nb = 0
  · by_cases h : na = nb
    · have ha : na = 0 := by omega
      have hb : nb = 0 := by omega
      subst ha hb
      rw [rep_zero 66 34]
      exact (lev_e w _ t u v mx).of_eq rfl
    · refine ((lev_a w 34 66 na nb t u v mx (.inr h0) (by omega) (by omega) h).mono (by omega)).of_eq ?_
      funext t
      congr 1
      omega
  · exact lev_b w na nb t u v mx hna hnb (by omega) (by omega) hmx
end Mine
end
section
open PySem PySem.W PyProof.Rows
namespace Mine
/-- the letters of a number to the base 16, ahead of acc -/
noncomputable def ap (n : Nat) (acc : List UInt8) : List UInt8 := if h : n = 0 then acc else ap (n / 16) (UInt8.ofNat (65 + n % 16) :: acc)
termination_by n
decreasing_by omega
/-- how many figures -/
noncomputable def nd (n : Nat) : Nat := if h : n = 0 then 0 else nd (n / 16) + 1
termination_by n
decreasing_by omega
theorem ap_zero (acc : List UInt8) : ap 0 acc = acc := by rw [ap]; simp
theorem ap_step {n : Nat} (h : n ≠ 0) (acc : List UInt8) : ap n acc = ap (n / 16) (UInt8.ofNat (65 + n % 16) :: acc) := by rw [ap]; simp [h]
theorem nd_zero : nd 0 = 0 := by rw [nd]; simp
theorem nd_step {n : Nat} (h : n ≠ 0) : nd n = nd (n / 16) + 1 := by rw [nd]; simp [h]
end Mine
namespace Mine
noncomputable def apB : Array UInt8 := #[65, 66, 67, 68, 69, 70, 71, 72, 73, 74, 75, 76, 77, 78, 79, 80]
theorem ap_picked {i : Int} (h0 : 0 ≤ i) (h1 : i < 16) : KBy.picked #[65, 66, 67, 68, 69, 70, 71, 72, 73, 74, 75, 76, 77, 78, 79, 80] (some i) (some (i + 1)) = #[UInt8.ofNat (65 + i.toNat)] := by
  have : ∀ k : Nat, k < 16 → KBy.picked #[65, 66, 67, 68, 69, 70, 71, 72, 73, 74, 75, 76, 77, 78, 79, 80] (some (k : Int)) (some ((k : Int) + 1)) = #[UInt8.ofNat (65 + k)] := by decide +kernel
  have := this i.toNat (by omega)
  rwa [Int.toNat_of_nonneg h0] at this
section
variable {prog : Program} {w : World} {A : Around} {E : Value → Shared → Prop} {s : Shared} {value slice : PySem.Expr} {b y : Array UInt8} {t : Tok} {h₀ : Heap} {L : Addr} {m : PySem.Str → Option Value} {news : List (Addr × Obj)} {i j : Int} {ui uj : Tok} {Q : Value → Shared → Prop}
theorem bsl_ss (e : KBy.picked b (some i) (some j) = y) (hz : b.size ≤ 16777216) (hF : Fr h₀ L s.heap m) (hN : News h₀ L s.heap news)
    (h : ∀ h' t' k, Fr h₀ L h' m → News h₀ L h' news → Q (.bytes y t') { s with heap := h', toks := k })
    (hs : subscripted slice false (.bytes b t) (.ref s.heap.objs.size) = operate [.ref s.heap.objs.size, .bytes b t] (getItem (.bytes b t) (.ref s.heap.objs.size)) := by with_unfolding_all rfl)
    (ht : ∀ r, letTemporaryGo value (.bytes b t) r = pure () := by intro _; with_unfolding_all rfl) :
    wpAny (model prog w) A (subscriptTail value slice (.bytes b t) (.ref s.heap.objs.size)) Q E { s with heap := s.heap.push { cls := .type "slice", data := .fields #[.int i ui, .int j uj, .none] } } := by
  subst e
  exact KBc.slice_K hF hN rfl (by constructor) (by constructor) (by rw [KBw.ints_length]; exact hz) (fun h' t' k a b _ => h h' t' k a b) hs ht
end
end Mine
namespace Mine
theorem ap_st0 (n : Int) : (0 ≤ if n < 0 then -n else n) ∧ (#[] : Array UInt8).size + nd (if n < 0 then -n else n).toNat = nd n.natAbs ∧ ap (if n < 0 then -n else n).toNat (#[] : Array UInt8).toList = ap n.natAbs [] := by
  have e : (if n < 0 then -n else n).toNat = n.natAbs := by split <;> omega
  rw [e]
  refine ⟨by split <;> omega, by simp, rfl⟩
theorem ap_st1 {n num : Int} {val : Array UInt8} (h0 : 0 ≤ num) (h1 : val.size + nd num.toNat = nd n.natAbs) (h2 : ap num.toNat val.toList = ap n.natAbs []) (hne : num ≠ 0) :
    0 ≤ num.fdiv 16 ∧ (#[UInt8.ofNat (65 + (num.fmod 16).toNat)] ++ val).size + nd (num.fdiv 16).toNat = nd n.natAbs ∧ ap (num.fdiv 16).toNat (#[UInt8.ofNat (65 + (num.fmod 16).toNat)] ++ val).toList = ap n.natAbs [] := by
  obtain ⟨k, rfl⟩ := Int.eq_ofNat_of_zero_le h0
  have e1 : (Int.fdiv (k : Int) 16).toNat = k / 16 := by
    rw [Int.fdiv_eq_ediv_of_nonneg _ (by omega)]; omega
  have e2 : (Int.fmod (k : Int) 16).toNat = k % 16 := by
    rw [Int.fmod_eq_emod_of_nonneg _ (by omega)]; omega
  have e3 : (k : Int).toNat = k := by omega
  rw [e3] at h1 h2
  have hk : k ≠ 0 := by omega
  rw [e1, e2]
  refine ⟨by rw [Int.fdiv_eq_ediv_of_nonneg _ (by omega)]; omega, ?_, ?_⟩
  · rw [nd_step hk] at h1
    rw [Array.size_append]; show 1 + val.size + _ = _; omega
  · rw [ap_step hk] at h2
    simpa using h2
theorem ap_meas {num : Int} (h0 : 0 ≤ num) (hne : num ≠ 0) : (num.fdiv 16).toNat < num.toNat := by
  rw [Int.fdiv_eq_ediv_of_nonneg _ (by omega)]; omega
theorem ap_fin {n num : Int} {val : Array UInt8} (h2 : ap num.toNat val.toList = ap n.natAbs []) (e : num = 0) : val = (ap n.natAbs []).toArray := by
  subst e
  rw [show (0 : Int).toNat = 0 from rfl, ap_zero] at h2
  rw [← h2]
section
variable {h₀ h' : Heap} {L : Addr} {m : Str → Option Value} {news : List (Addr × Obj)} {s : Shared} {Q : Value → Shared → Prop} {t : Tok} {tk' : Nat}
theorem cb_retY {x y : Array UInt8} (hret : ∀ (t : Tok) (h' : Heap) (tk' : Nat), Fr h₀ L h' m → News h₀ L h' news → Q (.bytes x t) { s with heap := h', toks := tk' }) (e : y = x) (F : Fr h₀ L h' m) (N : News h₀ L h' news) : Q (.bytes y t) { s with heap := h', toks := tk' } := by
  subst e
  exact hret t h' tk' F N
end
end Mine
end
section
open PySem PySem.W PyProof.Rows
namespace Mine
section
set_option maxRecDepth 100000 in
set_option maxHeartbeats 1000000 in
theorem ap_c (w : World) (n : Int) (t : Tok) (hn : nd n.natAbs ≤ 60) : Pure1 w 72 [.int n t] 5 (fun t => .bytes (ap n.natAbs []).toArray t) := by
  unfold Pure1
  k_fill
  k_with_none
  intro mean mg mb dp un gd cn cs a ccd cl outer A₀ base h₀ L m news s Q E B F X N T hk hd hu hret
  k_with "!subscriptTail Name Slice bytes ref" => (((with_reducible rename Fr _ _ _ _ => F'); (with_reducible rename News _ _ _ _ => N'); (refine bsl_ss (s := ⟨_, _, _, _, _⟩) (ap_picked (fmod_lo _ (by decide)) (fmod_hi _ (by decide))) (by decide) F' N' ?_; intro _ _ _ _ _; (try dsimp only))))
  k_with "exec While Name" => k_while (fun _ num val => 0 ≤ num ∧ val.size + nd num.toNat = nd n.natAbs ∧ ap num.toNat val.toList = ap n.natAbs []) (fun _ num _ => num.toNat) "num" "val"
  k_with "state" => first | exact ap_st0 n | exact ap_st1 (by assumption) (by assumption) (by assumption) (by assumption)
  k_with "measure" => first | exact ap_meas (by assumption) (by assumption)
  refine wpAny_call ?_
  k_dflt cell_enter
  k_steps
  all_goals (first | exact cb_retY hret (ap_fin (by assumption) (by assumption)) (by assumption) (by assumption))
  k_with_none
end
end Mine
end
section
open PySem PySem.W PyProof.Rows
namespace Mine
theorem foldl_rep (n : Nat) : ∀ acc : Array Nat, ((List.replicate n #[34]).foldl (· ++ ·) acc) = acc ++ (List.replicate n 34).toArray := by
  induction n with
  | zero => intro acc; simp
  | succ n ih =>
    intro acc
    rw [List.replicate_succ, List.foldl_cons, ih, List.replicate_succ]
    apply Array.ext'
    simp
theorem mul_quote (n : Nat) : Txt.mul (Str.ofString "\"") (n : Int) = rep 34 n := by
  unfold Txt.mul
  rw [quote_eq]
  by_cases h0 : n = 0
  · subst h0; rfl
  · rw [if_neg (by omega)]
    by_cases h1 : n = 1
    · subst h1; rfl
    · rw [if_neg (by simp [Str.length]; omega)]
      rw [foldl_rep]
      simp [rep]
/-- the reply 257, an opening quote, the signs -/
noncomputable def resp257 (l : List Nat) : Str := ⟨(50 :: 53 :: 55 :: 32 :: 34 :: l).toArray⟩
theorem resp257_add (x : Str) : Str.ofString "257 \"" ++ x = resp257 x.cps.toList := by
  rw [show Str.ofString "257 \"" = ⟨#[50, 53, 55, 32, 34]⟩ by decide +kernel]
  apply Str.ext'
  rw [Str.cps_append]
  apply Array.ext'
  simp [resp257]
theorem resp257_rep (n : Nat) : Str.ofString "257 \"" ++ rep 34 n = resp257 (List.replicate n 34) := by rw [resp257_add]; simp [rep]
theorem resp257_addx (n : Nat) : resp257 (List.replicate n 34) ++ Str.ofString "x" = resp257 (List.replicate n 34 ++ [120]) := by
  rw [show Str.ofString "x" = ⟨#[120]⟩ by decide +kernel]
  apply Str.ext'
  rw [Str.cps_append]
  apply Array.ext'
  simp [resp257]
theorem resp257_len (l : List Nat) : (resp257 l).length = l.length + 5 := by simp [resp257, Str.length]
theorem p257_rep (n : Nat) : p257 (List.replicate n 34) = List.replicate (n / 2) 34 := by
  induction n using Nat.strongRecOn with
  | _ n ih =>
    match n with
    | 0 => simp [p257]
    | 1 => simp [p257]
    | k + 2 =>
      rw [List.replicate_succ, List.replicate_succ, p257, if_pos rfl, if_pos rfl, ih k (by omega), show (k + 2) / 2 = k / 2 + 1 by omega, List.replicate_succ]
theorem p257_repx (n : Nat) : p257 (List.replicate n 34 ++ [120]) = List.replicate (n / 2) 34 ++ (if n % 2 = 0 then [120] else []) := by
  induction n using Nat.strongRecOn with
  | _ n ih =>
    match n with
    | 0 => simp [p257]
    | 1 => simp [p257]
    | k + 2 =>
      rw [List.replicate_succ, List.replicate_succ, List.cons_append, List.cons_append, p257, if_pos rfl, if_pos rfl, ih k (by omega), show (k + 2) / 2 = k / 2 + 1 by omega, show (k + 2) % 2 = k % 2 by omega, List.replicate_succ, List.cons_append]
theorem p257_l (w : World) (l : List Nat) (tk : Tok) (h : l.length ≤ 60) : Pure1 w 65 [.str (resp257 l) tk] 3 (fun t => .str ⟨(p257 l).toArray⟩ t) := by
  have hl := resp257_len l
  refine parse257_c w (resp257 l) tk (by omega) ?_ ?_ (by omega)
  · rw [eq_of_beq (slice_closes_toL (x := resp257 l) (j := 3) (by omega) (by omega))]
    rw [show Str.ofString "257" = ⟨#[50, 53, 55]⟩ by decide +kernel]
    rfl
  · rw [eq_of_beq (slice_closesL (x := resp257 l) (i := 3) (j := 5) (by omega) (by omega) (by omega))]
    rw [show Str.ofString " \"" = ⟨#[32, 34]⟩ by decide +kernel]
    rfl
theorem p257_q (w : World) (n : Nat) (tk : Tok) (h : n ≤ 50) : Pure1 w 65 [.str (resp257 (List.replicate n 34)) tk] 3 (fun t => .str (rep 34 (n / 2)) t) := by
  have := p257_l w (List.replicate n 34) tk (by simp; omega)
  rw [p257_rep] at this
  exact this
/-- the line's end behind the run -/
noncomputable def half (n : Nat) : Str := ⟨(List.replicate (n / 2) 34 ++ (if n % 2 = 0 then [120] else [])).toArray⟩
theorem p257_x (w : World) (n : Nat) (tk : Tok) (h : n ≤ 50) : Pure1 w 65 [.str (resp257 (List.replicate n 34 ++ [120])) tk] 3 (fun t => .str (half n) t) := by
  have := p257_l w (List.replicate n 34 ++ [120]) tk (by simp; omega)
  rw [p257_repx] at this
  exact this
section
variable {prog : Program} {w : World} {A : Around} {E : Value → Shared → Prop} {s : Shared} {x y z : Str} {t u : Tok} {i : Int} {Q : Value → Shared → Prop}
theorem mul_e (e : Txt.mul x i = y) (hx : x.length ≤ 16) (h0 : 0 ≤ i) (h1 : i ≤ 1048576) (h : ∀ t' k, Q (.str y t') { s with toks := k }) : wpAny (model prog w) A (binaryOp .Mult (.str x t) (.int i u)) Q E s := by
  subst e
  exact KXi.mul rfl hx (by omega) h1 (fun t' k _ _ => h t' k)
theorem add_e (e : x ++ y = z) (hs : x.length + y.length ≤ 16777216) (h : ∀ t' k, Q (.str z t') { s with toks := k }) : wpAny (model prog w) A (binaryOp .Add (.str x t) (.str y u)) Q E s := by
  subst e
  exact KOpn.add hs (fun t' k _ => h t' k)
end
end Mine
end
section
open PySem PySem.W PyProof.Rows
namespace Mine
theorem lev_q' (w : World) (na nb : Nat) (t u v : Tok) (mx : Int) (hna : na ≤ 10) (hnb : nb ≤ 10) : Pure1 w 110 [.str (rep 34 na) t, .str (rep 34 nb) u, .int mx v] 5 (fun t => .int ((2 * (max na nb - min na nb) : Nat) : Int) t) := by
  refine (lev_q w na nb t u v mx (by omega) (by omega)).of_eq ?_
  funext t; congr 1
theorem lev_ql' (w : World) (na nb : Nat) (t u v : Tok) (mx : Int) (hna : na ≤ 5) (hnb : nb ≤ 5) (hmx : 2 * (na + nb) ≤ mx) : Pure1 w 110 [.str (rep 34 na) t, .str (rep 66 nb) u, .int mx v] 5 (fun t => .int ((2 * (max na nb) : Nat) : Int) t) := by
  refine (lev_ql w na nb t u v mx hna hnb hmx).of_eq ?_
  funext t; congr 1
section
set_option maxRecDepth 100000 in
set_option maxHeartbeats 1000000 in
theorem apart_c (w : World) (na nb : Nat) (t u : Tok) (hna : na ≤ 10) (hnb : nb ≤ 10) : Pure1 w 131 [.str (rep 34 na) t, .str (rep 34 nb) u] 10 (fun t => .str (rep 34 (max na nb - min na nb)) t) := by
  unfold Pure1
  k_fill
  k_with_none
  intro mean mg mb dp un gd cn cs a ccd cl outer A₀ base h₀ L m news s Q E B F X N T hk hd hu hret
  k_with "!MyUse" => (((case k1 => k_asm); (case k2 => k_asm); (case k3 => k_asm); (case k4 => k_asm); (case k5 => k_asm); (case kK => first | exact rfl | assumption); (case kd => ktr_room); (case ku => ktr_units); intro t9 h9 tk9 F9 N9; (try dsimp only); (try k_fold)))
  k_with "!call ref" => (((with_reducible show wpAny _ _ (call (Value.ref 110) _) _ _ _); (refine' Pure1.use (lev_q' _ _ _ _ _ _ _ ?ka ?kb) ?k1 ?k2 ?k3 ?k4 ?k5 ?kK ?kd ?ku ?_); (case ka => omega); (case kb => omega); walk_at "MyUse"))
  k_with "!call ref" => (((with_reducible show wpAny _ _ (call (Value.ref 65) _) _ _ _); (refine' Pure1.use (p257_q _ _ _ ?ka) ?k1 ?k2 ?k3 ?k4 ?k5 ?kK ?kd ?ku ?_); (case ka => omega); walk_at "MyUse"))
  k_with "!binaryOp Mult str int" => ((refine mul_e (mul_quote _) (by decide +kernel) (by omega) (by omega) ?_; intro _ _; (try dsimp only)))
  k_with "!binaryOp Add str str" => ((refine add_e (resp257_rep _) (by (rw [rep_len, show (Str.ofString "257 \"").length = 5 by decide +kernel]); omega) ?_; intro _ _; (try dsimp only)))
  refine wpAny_call ?_
  k_dflt cell_enter
  k_steps
  all_goals (first | exact cb_retS hret (by congr 1; omega) (by assumption) (by assumption))
end
end Mine
end
section
open PySem PySem.W PyProof.Rows
namespace Mine
noncomputable def ones : Nat → Nat
  | 0 => 0
  | k + 1 => 16 * ones k + 1
theorem ones_ap (k : Nat) : ∀ acc, ap (ones k) acc = List.replicate k 66 ++ acc := by
  induction k with
  | zero => intro acc; simp [ones, ap_zero]
  | succ k ih =>
    intro acc
    rw [ap_step (by simp [ones]), show ones (k + 1) / 16 = ones k by simp only [ones]; omega, show ones (k + 1) % 16 = 1 by simp only [ones]; omega, ih, List.replicate_succ']
    simp
theorem ones_nd (k : Nat) : nd (ones k) = k := by
  induction k with
  | zero => simp [ones, nd_zero]
  | succ k ih => rw [nd_step (by simp [ones]), show ones (k + 1) / 16 = ones k by simp only [ones]; omega, ih]
theorem ones_pow (k : Nat) : ((16 : Int) ^ k - 1) = 15 * (ones k : Int) := by
  induction k with
  | zero => simp [ones]
  | succ k ih =>
    have : (16 : Int) ^ (k + 1) = 16 * 16 ^ k := by rw [Int.pow_succ]; omega
    rw [this]
    simp only [ones]
    omega
theorem ones_div (k : Nat) : Int.fdiv ((16 : Int) ^ k - 1) 15 = (ones k : Int) := by
  rw [ones_pow, Int.fdiv_eq_ediv_of_nonneg _ (by omega)]; omega
theorem ones_c (w : World) (k : Nat) (t : Tok) (h : k ≤ 50) : Pure1 w 72 [.int (Int.fdiv ((16 : Int) ^ ((k : Int)).toNat - 1) 15) t] 5 (fun t => .bytes (List.replicate k 66).toArray t) := by
  have e : Int.fdiv ((16 : Int) ^ ((k : Int)).toNat - 1) 15 = (ones k : Int) := by rw [Int.toNat_natCast]; exact ones_div k
  have := ap_c w (Int.fdiv ((16 : Int) ^ ((k : Int)).toNat - 1) 15) t (by rw [e]; simp [ones_nd]; omega)
  rw [show (Int.fdiv ((16 : Int) ^ ((k : Int)).toNat - 1) 15).natAbs = ones k by rw [e]; simp, ones_ap, List.append_nil] at this
  exact this
end Mine
end
section
open PySem PySem.W PySem.Spec PySem.Calls PyProof.Rows
namespace Mine
open LCg
section
variable {prog : Program} {w : World} {A : Around} {E : Value → Shared → Prop} {s : Shared} {h₀ : Heap} {L : Addr} {m : Str → Option Value} {env : Env}
def SrcB (prog : Program) (w : World) (A : Around) (h₀ : Heap) (L : Addr) (m : Str → Option Value) (env : Env) (elt : Expr) (x : Str) (scope : Scope) (cl : List (Str × Addr)) (Fin : Shared → List Value → List (Addr × Obj) → Prop) (xv : Value) (s₁ : Shared) : Prop :=
  ∃ b t news, xv = .bytes b t ∧ A.handled = none ∧ Fr h₀ L s₁.heap m ∧ News h₀ L s₁.heap news ∧ b.size ≤ sizeLine ∧
    ∀ s₂ : Shared, (∃ h, s₂ = { s₁ with heap := h }) → CompRest prog w A h₀ L m env elt x scope cl s₂ (fun _ => True) (fun i v => ∃ c u, b[i]? = some c ∧ v = .int (c.toNat : Int) u) (Fin s₂) b.size 0 [] news
theorem SrcB.bytes {elt : Expr} {x : Str} {scope : Scope} {cl : List (Str × Addr)} {Fin : Shared → List Value → List (Addr × Obj) → Prop} {b : Array UInt8} {t : Tok} {news : List (Addr × Obj)} {s₁ : Shared}
    (hh : A.handled = none) (F : Fr h₀ L s₁.heap m) (N : News h₀ L s₁.heap news) (hsz : b.size ≤ 16777216)
    (h : ∀ g, CompRest prog w A h₀ L m env elt x scope cl { s₁ with heap := g } (fun _ => True) (fun i v => ∃ c u, b[i]? = some c ∧ v = .int (c.toNat : Int) u) (Fin { s₁ with heap := g }) b.size 0 [] news) :
    SrcB prog w A h₀ L m env elt x scope cl Fin (.bytes b t) s₁ := ⟨b, t, news, rfl, hh, F, N, by rw [PySem.sizeLine_eq]; exact hsz, fun _ ⟨g, e⟩ => e ▸ h g⟩
theorem bytes_st {I : Addr} {b : Array UInt8} {t : Tok} : ∀ i (h h' : Heap) (o : Obj) (nw : List (Addr × Obj)), KBw.IsBytesIter h I b t i → h.get? I = some o → h'.get? I = some o → (∀ b o, h₀.get? b = some o → h'.get? b = some o) → News h₀ L h' nw → True → KBw.IsBytesIter h' I b t i :=
  fun i h h' o nw st e e' _ _ _ => by obtain ⟨o', q, r⟩ := st; rw [e] at q; cases q; exact ⟨o, e', r⟩
theorem ListComp_B {elt iter : Expr} {x : Str} {px : Pos} {scope : Scope} {cl : List (Str × Addr)} {pos : Pos} {Q : Value → Shared → Prop} (F₀ : Fr h₀ L s.heap m)
    (hclos : closureFor scope env = pure cl) (hcell : ∀ y ∈ scope.names, y.2 ≠ .cell) (hkind : scope.kind = .function)
    (hnames : ∀ y ∈ scope.names, y.2 = .local → scope.names.lookup y.1 = some .local) (hx : scope.names.lookup x = some .local)
    (h : wpAny (model prog w) A (eval iter env) (SrcB prog w A h₀ L m env elt x scope cl (fun s₂ => FinE h₀ L m s₂ Q)) E s)
    (hs : ∀ x, foldedSetIterable iter env x = pure x := by intro _; rfl) :
    wpAny (model prog w) A (eval (.ListComp elt [⟨.Name x px, iter, [], 0⟩] scope pos) env) Q E s := by
  rw [eval_ListComp]
  refine wpAny_comprehension_free (use := none) rfl hs hclos hkind hnames (wpAny_mono h (fun xv s₁ h₁ => ?_) fun _ _ e => e)
  obtain ⟨b, t, news, rfl, hh, F, N, hsz, R⟩ := h₁
  refine KBw.pyIter_bytes ?_
  refine block_U (KBw.walks hh s₁.heap.objs.size b t) hsz (fun i h st => by obtain ⟨o, e, _⟩ := st; exact ⟨o, e⟩) bytes_st hcell hkind hx ⟨_, Heap.get?_push_size _ rfl, rfl, rfl⟩ (fun b hb => ?_)
    (F.keeps fun _ _ e => Heap.get?_push_of_some _ e) (N.grown fun _ _ e => Heap.get?_push_of_some _ e) (Nat.ne_of_lt F.ns.lt) (next_is_new F) (fun p hp => Nat.ne_of_lt (Heap.lt_size (N p hp).1)) trivial (R _ ⟨_, rfl⟩) ?_
  · rw [List.mem_singleton.mp hb]
    show s₁.heap.objs.size < (s₁.heap.push _).objs.size
    rw [Heap.size_push]; exact Nat.lt_succ_self _
  · intro D C h tk m' ys news' F' N' o1 hn hC₀ hD₀ hCL hDL hCD offC fin
    refine ⟨m', hn, fun h'' hs'' => fin D h'' tk (F'.change hs'' hCL hC₀) (fun p hp => ?_) o1⟩
    refine ⟨hs''.extBut _ _ ?_ (N' p hp).1, (N' p hp).2⟩
    rcases List.mem_cons.mp hp with rfl | hp
    · exact Ne.symm hCD
    · exact offC p hp
variable {elt : Expr} {x : Str} {scope : Scope} {cl : List (Str × Addr)} {S : List (Addr × Obj) → Prop} {Fin : List Value → List (Addr × Obj) → Prop} {news : List (Addr × Obj)}
theorem kct_bytes {b : Array UInt8} (g : Int → PySem.Str)
    (turn : ∀ k t I oI C oC D m₂ ys h tk (E' : Value → Shared → Prop), 0 ≤ k → k < 256 → LCg.NsObj oC m₂ → m₂ x = some (.int k t) → Fr h₀ L h m → News h₀ L h ((I, oI) :: (C, oC) :: (D, LCg.lst ys) :: news) → LCg.Off3 I C D news → ((@Ne Nat I C) ∧ (@Ne Nat I D) ∧ (@Ne Nat C D)) → KPfMark →
      wpAny (model prog w) A (eval elt (compEnvC scope cl C env)) (LCg.CompEnd h₀ L m { s with heap := h, toks := tk } I oI C oC D (LCg.lst ys) S (fun y news' => KCtEl news (g k) y news')) E' { s with heap := h, toks := tk })
    (fin : (∀ ys, CarriedAll ys ((KBw.bInts b).map fun k => PyData.str (g k)) → Fin ys news)) : LCg.CompRest prog w A h₀ L m env elt x scope cl s S (fun i v => ∃ c u, b[i]? = some c ∧ v = .int (c.toNat : Int) u) Fin b.size 0 [] news :=
  kct_rest (ks := KBw.bInts b) g (KBw.ints_length b) (fun i v hi hv => by
    obtain ⟨c, u, hc, e⟩ := hv
    have h9 := KBw.ints_get hc
    exact ⟨(c.toNat : Int), u, by simpa using h9, e⟩)
    (fun k t I oI C oC D m₂ ys h tk E' hk hC hx F N off ne mk => turn k t I oI C oC D m₂ ys h tk E' (KBw.ints_in hk).1 (KBw.ints_in hk).2 hC hx F N off ne mk) (fun ys hc _ => fin ys hc)
end
theorem ce_str {h₀ : Heap} {L I C D : Addr} {m : Str → Option Value} {s₁ : Shared} {oI oC oD : Obj} {S : List (Addr × Obj) → Prop} {r : Str} {t : Tok} {h' : Heap} {tk : Nat} {all news : List (Addr × Obj)}
    (F : Fr h₀ L h' m) (N : News h₀ L h' all) (sub : ∀ p ∈ (I, oI) :: (C, oC) :: (D, oD) :: news, p ∈ all) (off : Off3 I C D news) (hS : S news) :
    CompEnd h₀ L m s₁ I oI C oC D oD S (fun y news' => KCtEl news r y news') (.str r t) { s₁ with heap := h', toks := tk } := CompEnd.intro F N news sub off hS (kct_el rfl rfl rfl)
theorem ofs_empty : (Str.ofString "").cps = #[] := by decide +kernel
theorem foldl_ones (c n : Nat) : ∀ acc : Array Nat, ((List.replicate n (⟨#[c]⟩ : Str)).foldl (fun (acc : Array Nat) (p : Str) => acc ++ (Str.ofString "").cps ++ p.cps) acc) = acc ++ (List.replicate n c).toArray := by
  induction n with
  | zero => intro acc; simp
  | succ n ih =>
    intro acc
    rw [List.replicate_succ, List.foldl_cons, ih, List.replicate_succ, ofs_empty]
    apply Array.ext'
    simp
theorem glued_ones (c n : Nat) : Txt.join (Str.ofString "") (List.replicate n (⟨#[c]⟩ : Str)) = rep c n := by
  cases n with
  | zero => rfl
  | succ n =>
    rw [List.replicate_succ]
    show (⟨(List.replicate n (⟨#[c]⟩ : Str)).foldl (fun (acc : Array Nat) (p : Str) => acc ++ (Str.ofString "").cps ++ p.cps) #[c]⟩ : Str) = rep c (n + 1)
    rw [foldl_ones]
    simp [rep, List.replicate_succ]
theorem bInts_rep (n : Nat) : (KBw.bInts (List.replicate n (66 : UInt8)).toArray).map (fun k : Int => (⟨#[k.toNat]⟩ : Str)) = List.replicate n ⟨#[66]⟩ := by
  simp [KBw.bInts]
section
variable {prog : Program} {w : World} {A : Around} {E : Value → Shared → Prop} {s : Shared} {t : Tok} {Q : Value → Shared → Prop} {D : Addr} {ys : List Value} {n c : Nat}
theorem join_bs (hl : s.heap.IsList D ys.toArray) (hc : CarriedAll ys ((KBw.bInts (List.replicate n (66 : UInt8)).toArray).map fun k : Int => PyData.str ⟨#[k.toNat]⟩)) (hn : n ≤ 1000)
    (h : ∀ t' k, Q (.str (rep 66 n) t') { s with toks := k }) : wpAny (model prog w) A (call (.builtin "str.join") [.str (Str.ofString "") t, .ref D]) Q E s := by
  refine KT.join_B 1 hl hc (fun _ _ => Nat.le_of_eq rfl) (by rw [KBw.ints_length]; simp; omega) (by decide) fun t' k => ?_
  rw [bInts_rep, glued_ones]
  exact h t' k
end
end Mine
end
section
open PySem PySem.W PyProof.Rows
namespace Mine
theorem rep_add (c n k : Nat) : rep c n ++ rep c k = rep c (n + k) := by
  apply Str.ext'
  rw [Str.cps_append]
  apply Array.ext'
  simp [rep, List.replicate_append_replicate]
section
set_option maxRecDepth 100000 in
set_option maxHeartbeats 1000000 in
theorem greater_c (w : World) (na nb : Nat) (t u : Tok) (hna : na ≤ 5) (hnb : nb ≤ 5) : Pure1 w 136 [.str (rep 34 na) t, .str (rep 34 nb) u] 10 (fun t => .str (rep 34 (max na nb)) t) := by
  unfold Pure1
  k_fill
  k_with_none
  intro mean mg mb dp un gd cn cs a ccd cl outer A₀ base h₀ L m news s Q E B F X N T hk hd hu hret
  k_with "!MyUse" => (((case k1 => k_asm); (case k2 => k_asm); (case k3 => k_asm); (case k4 => k_asm); (case k5 => k_asm); (case kK => first | exact rfl | assumption); (case kd => ktr_room); (case ku => ktr_units); intro t9 h9 tk9 F9 N9; (try dsimp only); (try k_fold)))
  k_with "!call ref" => (((with_reducible show wpAny _ _ (call (Value.ref 110) _) _ _ _); (refine' Pure1.use (lev_ql' _ _ _ _ _ _ _ ?ka ?kb ?kc) ?k1 ?k2 ?k3 ?k4 ?k5 ?kK ?kd ?ku ?_); (case ka => omega); (case kb => omega); (case kc => omega); walk_at "MyUse"))
  k_with "!call ref" => (((with_reducible show wpAny _ _ (call (Value.ref 65) _) _ _ _); (refine' Pure1.use (p257_q _ _ _ ?ka) ?k1 ?k2 ?k3 ?k4 ?k5 ?kK ?kd ?ku ?_); (case ka => omega); walk_at "MyUse"))
  k_with "!call ref" => (((with_reducible show wpAny _ _ (call (Value.ref 72) _) _ _ _); (refine' Pure1.use (ones_c _ _ _ ?ka) ?k1 ?k2 ?k3 ?k4 ?k5 ?kK ?kd ?ku ?_); (case ka => omega); walk_at "MyUse"))
  k_with "!binaryOp Mult str int" => ((refine mul_e (mul_quote _) (by decide +kernel) (by omega) (by omega) ?_; intro _ _; (try dsimp only)))
  k_with "!binaryOp Add str str" => ((refine add_e (resp257_rep _) (by (rw [rep_len, show (Str.ofString "257 \"").length = 5 by decide +kernel]); omega) ?_; intro _ _; (try dsimp only)))
  k_with "!binaryOp Add str str" => ((refine add_e (rep_add _ _ _) (by (rw [rep_len, rep_len]); omega) ?_; intro _ _; (try dsimp only)))
  k_with "!call builtin:len" => ((refine len_e (rep_len _ _) (by omega) ?_; (try dsimp only)))
  k_with "!binaryOp Pow int int" => ((refine pow_int_small (by omega) (by omega) (by decide) ?_; (try dsimp only)))
  k_with "!eval ListComp" => ((k_dflt (refine ListComp_B (F₀ := by k_asm) (by with_unfolding_all rfl) (by decide) (by rfl) (by decide) (by rfl) ?_)))
  k_with "!SrcB" => ((k_dflt (refine SrcB.bytes (by rfl) (by k_asm) (by k_asm) (by simp; omega) ?_; intro g'; (refine' kct_bytes (fun k => ⟨#[k.toNat]⟩) (fun k' t' I' oI' C' oC' D' m' ys' h' tk' E' hlo' hhi' hC' hx' F' N' off' ne' hMark' => ?_) ?_); (all_goals (try k_fold)))))
  k_with "!CompEnd" => ((k_dflt (refine ce_str (by assumption) (by assumption) (by kcf_all) (by assumption) True.intro)))
  k_with "!call builtin:str.join" => ((refine join_bs (by is_list) (by assumption) (by omega) ?_; intro _ _; (try dsimp only)))
  refine wpAny_call ?_
  k_dflt cell_enter
  k_steps
  all_goals (refine' cb_retS hret (by congr 1; omega) (by assumption) (cb_drop ?yN ?yS); (case yN => assumption); (case yS => kcf_all))
end
end Mine
end
section
open PySem PySem.W PyProof.Rows
namespace Mine
set_option maxRecDepth 100000 in
set_option maxHeartbeats 1000000 in
theorem isterm_c (w : World) (x : Int) (t : Tok) : Pure1 w 82 [.int x t] 3 (fun _ => .bool (decide (x < 256))) := by
  unfold Pure1
  k_fill
  k_with_none
  intro mean mg mb dp un gd cn cs a ccd cl outer A₀ base h₀ L m news s Q E B F X N T hk hd hu hret
  refine wpAny_call ?_
  k_dflt cell_enter
  k_steps
  all_goals exact cb_retB hret rfl (by assumption) (by assumption)
set_option maxRecDepth 100000 in
set_option maxHeartbeats 1000000 in
theorem isnon_c (w : World) (x : Int) (t : Tok) : Pure1 w 89 [.int x t] 3 (fun _ => .bool (decide (256 ≤ x))) := by
  unfold Pure1
  k_fill
  k_with_none
  intro mean mg mb dp un gd cn cs a ccd cl outer A₀ base h₀ L m news s Q E B F X N T hk hd hu hret
  refine wpAny_call ?_
  k_dflt cell_enter
  k_steps
  all_goals exact cb_retB hret rfl (by assumption) (by assumption)
set_option maxRecDepth 100000 in
set_option maxHeartbeats 1000000 in
theorem iseof_c (w : World) (x : Int) (t : Tok) : Pure1 w 96 [.int x t] 3 (fun _ => .bool (x == 0)) := by
  unfold Pure1
  k_fill
  k_with_none
  intro mean mg mb dp un gd cn cs a ccd cl outer A₀ base h₀ L m news s Q E B F X N T hk hd hu hret
  refine wpAny_call ?_
  k_dflt cell_enter
  k_steps
  all_goals exact cb_retB hret rfl (by assumption) (by assumption)
end Mine
end
section
open PySem PySem.W PyProof.Rows
namespace Mine
theorem s_quote : Str.ofString "\"" = rep 34 1 := by decide +kernel
theorem s_empty : Str.ofString "" = rep 34 0 := by decide +kernel
noncomputable def two (k b t : Nat) : Nat := match k with
  | 0 => max b t - min b t
  | 1 => max b t
  | 2 => min b t
  | 3 => if b < t then 1 else 0
  | _ => if b ≠ t then 1 else 0
noncomputable def twoTok (k : Nat) : Int := match k with
  | 0 => 15
  | 1 => 18
  | 2 => 19
  | 3 => 20
  | _ => 28
theorem two0 (b t : Nat) : two 0 b t = max b t - min b t := rfl
theorem two1 (b t : Nat) : two 1 b t = max b t := rfl
theorem two2 (b t : Nat) : two 2 b t = min b t := rfl
theorem two3 (b t : Nat) : two 3 b t = if b < t then 1 else 0 := rfl
theorem two4 (b t : Nat) : two 4 b t = if b ≠ t then 1 else 0 := rfl
theorem twoT0 : twoTok 0 = 15 := rfl
theorem twoT1 : twoTok 1 = 18 := rfl
theorem twoT2 : twoTok 2 = 19 := rfl
theorem twoT3 : twoTok 3 = 20 := rfl
theorem twoT4 : twoTok 4 = 28 := rfl
section
set_option maxRecDepth 100000 in
set_option maxHeartbeats 1000000 in
theorem two_c (w : World) (k nb nt : Nat) (v t u : Tok) (hk5 : k < 5) (hnb : nb ≤ 5) (hnt : nt ≤ 5) : Pure1 w 143 [.int (twoTok k) v, .str (rep 34 nb) t, .str (rep 34 nt) u] 20 (fun t => .str (rep 34 (two k nb nt)) t) := by
  unfold Pure1
  k_fill
  k_with_none
  intro mean mg mb dp un gd cn cs a ccd cl outer A₀ base h₀ L m news s Q E B F X N T hk hd hu hret
  k_with "!MyUse" => (((case k1 => k_asm); (case k2 => k_asm); (case k3 => k_asm); (case k4 => k_asm); (case k5 => k_asm); (case kK => first | exact rfl | assumption); (case kd => ktr_room); (case ku => ktr_units); intro t9 h9 tk9 F9 N9; (try dsimp only); (try k_fold)))
  k_with "!call ref" => (((with_reducible show wpAny _ _ (call (Value.ref 110) _) _ _ _); (refine' Pure1.use (lev_q' _ _ _ _ _ _ _ ?ka ?kb) ?k1 ?k2 ?k3 ?k4 ?k5 ?kK ?kd ?ku ?_); (case ka => omega); (case kb => omega); walk_at "MyUse"))
  k_with "!call ref" => (((with_reducible show wpAny _ _ (call (Value.ref 131) _) _ _ _); (refine' Pure1.use (apart_c _ _ _ _ _ ?ka ?kb) ?k1 ?k2 ?k3 ?k4 ?k5 ?kK ?kd ?ku ?_); (case ka => omega); (case kb => omega); walk_at "MyUse"))
  k_with "!call ref" => (((with_reducible show wpAny _ _ (call (Value.ref 136) _) _ _ _); (refine' Pure1.use (greater_c _ _ _ _ _ ?ka ?kb) ?k1 ?k2 ?k3 ?k4 ?k5 ?kK ?kd ?ku ?_); (case ka => omega); (case kb => omega); walk_at "MyUse"))
  k_with "!call ref" => (((with_reducible show wpAny _ _ (call (Value.ref 82) _) _ _ _); (refine' Pure1.use (isterm_c _ _ _) ?k1 ?k2 ?k3 ?k4 ?k5 ?kK ?kd ?ku ?_); walk_at "MyUse"))
  k_with "!call ref" => (((with_reducible show wpAny _ _ (call (Value.ref 96) _) _ _ _); (refine' Pure1.use (iseof_c _ _ _) ?k1 ?k2 ?k3 ?k4 ?k5 ?kK ?kd ?ku ?_); walk_at "MyUse"))
  k_with "!call builtin:len" => ((refine len_e (rep_len _ _) (by omega) ?_; (try dsimp only)))
  obtain rfl | rfl | rfl | rfl | rfl : k = 0 ∨ k = 1 ∨ k = 2 ∨ k = 3 ∨ k = 4 := by omega
  all_goals (
    simp only [twoT0, twoT1, twoT2, twoT3, twoT4, two0, two1, two2, two3, two4] at hret ⊢
    refine wpAny_call ?_
    k_dflt cell_enter
    k_steps)
  all_goals (exact cb_retS hret (by first | rfl | (congr 1; omega) | (rw [if_pos (by omega)]; exact s_quote) | (rw [if_pos (by omega)]; exact s_empty) | (rw [if_neg (by omega)]; exact s_empty) | (rw [if_neg (by omega)]; exact s_quote)) (by assumption) (cb_drop (by assumption) (by kcf_all)))
end
end Mine
end
section
open PySem PySem.W PyProof.Rows
namespace Mine
noncomputable def markOf (k : Nat) : Nat := match k with
  | 0 => 124 | 1 => 33 | 2 => 40 | 3 => 55 | 4 => 124 | 5 => 33 | _ => 124
noncomputable def lineOf (k v : Nat) : Str :=
  if k ≤ 7 then ⟨([50, 50, if k = 7 then 55 else 57, 32, 103, 111, 32, 40] ++ List.replicate (if k = 6 then 2 else 3) (markOf k) ++ [48 + v, markOf k, 41]).toArray⟩
  else match k with
  | 8 => ⟨#[45]⟩ | 9 => ⟨#[124]⟩ | 10 => ⟨#[38]⟩ | 11 => ⟨#[60]⟩ | 12 => ⟨#[33, 61]⟩ | 13 => ⟨#[47, 47]⟩ | _ => ⟨#[37]⟩
end Mine
namespace Mine
section
variable {prog : Program} {w : World} {A : Around} {E : Value → Shared → Prop} {s : Shared} {value slice : PySem.Expr} {h₀ : Heap} {L l : Addr} {news : List (Addr × Obj)} {vs : List Value} {n : Nat} {i : Int} {u : Tok} {v : Value} {Q : Value → Shared → Prop}
theorem li_item (N : News h₀ L s.heap news) (hm : (l, PySem.W.listOf vs.toArray n) ∈ news) (h0 : 0 ≤ i) (hfit : i < 2 ^ 63) (hx : vs[i.toNat]? = some v) (h : Q v s)
    (hs : subscripted slice false (.ref l) (.int i u) = operate [.ref l, .int i u] (getItem (.ref l) (.int i u)) := by with_unfolding_all rfl) :
    wpAny (model prog w) A (subscriptTail value slice (.ref l) (.int i u)) Q E s := by
  have hl : s.heap.IsList l vs.toArray := ⟨_, (N _ hm).1, rfl, n, rfl⟩
  exact tail_any hl.typeIs slot_list_getitem.lookup (wpAny_getItem_list hl h0 hfit (by simpa using hx) h) hs
end
noncomputable def lowTxt (k v : Nat) : Str := Str.ofString (if k = 7 then "227" else "229") ++ Str.ofString " go (" ++ Txt.mul (Txt.item (Str.ofString "|!(7|!||") (k : Int)) (if k = 6 then 2 else 3) ++ Str.ofString (toString (v : Int)) ++ Txt.item (Str.ofString "|!(7|!||") (k : Int) ++ Str.ofString ")"
theorem low_all : ∀ k : Nat, k < 8 → ∀ v : Nat, v < 6 → lowTxt k v = lineOf k v := by decide +kernel
theorem line_low (k v : Nat) (hk : k ≤ 7) (hv : v ≤ 5) : Str.ofString (if k = 7 then "227" else "229") ++ Str.ofString " go (" ++ Txt.mul (Txt.item (Str.ofString "|!(7|!||") (k : Int)) (if k = 6 then 2 else 3) ++ Str.ofString (toString (v : Int)) ++ Txt.item (Str.ofString "|!(7|!||") (k : Int) ++ Str.ofString ")" = lineOf k v :=
  low_all k (by omega) v (by omega)
theorem line_6 {k v : Nat} (h : (k : Int) = 6) (hv : v ≤ 5) : Str.ofString "229" ++ Str.ofString " go (" ++ Txt.mul (Txt.item (Str.ofString "|!(7|!||") (k : Int)) 2 ++ Str.ofString (toString (v : Int)) ++ Txt.item (Str.ofString "|!(7|!||") (k : Int) ++ Str.ofString ")" = lineOf k v := by
  have h6 : k = 6 := by omega
  rw [← line_low k v (by omega) hv, if_pos h6, if_neg (by omega)]
theorem line_7 {k v : Nat} (h : (k : Int) = 7) (hv : v ≤ 5) : Str.ofString "227" ++ Str.ofString " go (" ++ Txt.mul (Txt.item (Str.ofString "|!(7|!||") (k : Int)) 3 ++ Str.ofString (toString (v : Int)) ++ Txt.item (Str.ofString "|!(7|!||") (k : Int) ++ Str.ofString ")" = lineOf k v := by
  have h7 : k = 7 := by omega
  rw [← line_low k v (by omega) hv, if_pos h7, if_neg (by omega)]
theorem line_5 {k v : Nat} (h : ¬ (7 : Int) < (k : Int)) (h6 : (k : Int) ≠ 6) (h7 : (k : Int) ≠ 7) (hv : v ≤ 5) : Str.ofString "229" ++ Str.ofString " go (" ++ Txt.mul (Txt.item (Str.ofString "|!(7|!||") (k : Int)) 3 ++ Str.ofString (toString (v : Int)) ++ Txt.item (Str.ofString "|!(7|!||") (k : Int) ++ Str.ofString ")" = lineOf k v := by
  rw [← line_low k v (by omega) hv, if_neg (by omega), if_neg (by omega)]
theorem line_8 (v : Nat) : lineOf 8 v = Str.ofString "-" := by unfold lineOf; rw [if_neg (by decide)]; decide +kernel
theorem line_9 (v : Nat) : lineOf 9 v = Str.ofString "|" := by unfold lineOf; rw [if_neg (by decide)]; decide +kernel
theorem line_10 (v : Nat) : lineOf 10 v = Str.ofString "&" := by unfold lineOf; rw [if_neg (by decide)]; decide +kernel
theorem line_11 (v : Nat) : lineOf 11 v = Str.ofString "<" := by unfold lineOf; rw [if_neg (by decide)]; decide +kernel
theorem line_12 (v : Nat) : lineOf 12 v = Str.ofString "!=" := by unfold lineOf; rw [if_neg (by decide)]; decide +kernel
theorem line_13 (v : Nat) : lineOf 13 v = Str.ofString "//" := by unfold lineOf; rw [if_neg (by decide)]; decide +kernel
theorem line_14 (v : Nat) : lineOf 14 v = Str.ofString "%" := by unfold lineOf; rw [if_neg (by decide)]; decide +kernel
end Mine
end
section
open PySem PySem.W PyProof.Rows
namespace Mine
section
set_option maxRecDepth 100000 in
set_option maxHeartbeats 1000000 in
theorem line_c (w : World) (k v : Nat) (t u : Tok) (hk14 : k ≤ 14) (hv : v ≤ 5) : Pure1 w 124 [.int k t, .int v u] 10 (fun t => .str (lineOf k v) t) := by
  unfold Pure1
  k_fill
  k_with_none
  intro mean mg mb dp un gd cn cs a ccd cl outer A₀ base h₀ L m news s Q E B F X N T hk hd hu hret
  k_with "!MyMem" => (first
     | assumption
     | exact List.Mem.head _
     | (refine List.Mem.tail _ ?_; walk_at "MyMem"))
  k_with "subscriptTail Name BinOp ref int" => k_dflt (obtain rfl | rfl | rfl | rfl | rfl | rfl | rfl : k = 8 ∨ k = 9 ∨ k = 10 ∨ k = 11 ∨ k = 12 ∨ k = 13 ∨ k = 14 := by omega) <;> k_dflt (refine li_item (by assumption) (by walk_at "MyMem") (by decide) (by decide) (by rfl) ?_)
  refine wpAny_call ?_
  k_dflt cell_enter
  k_steps
  all_goals (first
    | (exfalso; omega)
    | exact cb_retS hret (by first | with_reducible exact line_6 (by assumption) hv | with_reducible exact line_7 (by assumption) hv | with_reducible exact line_5 (by assumption) (by assumption) (by assumption) hv | with_reducible exact (line_8 v).symm | with_reducible exact (line_9 v).symm | with_reducible exact (line_10 v).symm | with_reducible exact (line_11 v).symm | with_reducible exact (line_12 v).symm | with_reducible exact (line_13 v).symm | with_reducible exact (line_14 v).symm) (by assumption) (cb_drop (by assumption) (by kcf_all)))
  k_with_none
end
end Mine
end
section
open PySem PySem.W PyProof.Rows
namespace Mine
section
variable {prog : Program} {w : World} {A : Around} {E : Value → Shared → Prop} {s : Shared} {x y : Str} {t u t' : Tok} {h₀ : Heap} {L : Addr} {m : Str → Option Value} {news : List (Addr × Obj)} {Q : Value → Shared → Prop} {i j : Int}
theorem cmpn_e {b : Bool} (e : (x != y) = b) (h : Q (.bool b) s) : wpAny (model prog w) A (compareOp .NotEq (.str x t) (.str y u)) Q E s := by
  subst e
  exact ne_str h
theorem find_e (e : Txt.find x y = i) (h : Q (.int i s.toks) { s with toks := s.toks + 1 }) : wpAny (model prog w) A (call (.builtin "str.find") [.str x t, .str y u]) Q E s := by
  subst e
  exact SC.find h
theorem find3_e (e : Txt.find3 x y i = j) (h : Q (.int j s.toks) { s with toks := s.toks + 1 }) : wpAny (model prog w) A (call (.builtin "str.find") [.str x t, .str y u, .int i t']) Q E s := by
  subst e
  exact SC.find3 h
theorem map_fst5 {l : List (Str × Tok)} {a b c d e : Str} (h : l.map (·.1) = [a, b, c, d, e]) : ∃ k1 k2 k3 k4 k5, l = [(a, k1), (b, k2), (c, k3), (d, k4), (e, k5)] := by
  match l, h with
  | [(_, k1), (_, k2), (_, k3), (_, k4), (_, k5)], h =>
    simp only [List.map_cons, List.map_nil, List.cons.injEq, and_true] at h
    obtain ⟨rfl, rfl, rfl, rfl, rfl⟩ := h
    exact ⟨k1, k2, k3, k4, k5, rfl⟩
theorem map_fst4 {l : List (Str × Tok)} {a b c d : Str} (h : l.map (·.1) = [a, b, c, d]) : ∃ k1 k2 k3 k4, l = [(a, k1), (b, k2), (c, k3), (d, k4)] := by
  match l, h with
  | [(_, k1), (_, k2), (_, k3), (_, k4)], h =>
    simp only [List.map_cons, List.map_nil, List.cons.injEq, and_true] at h
    obtain ⟨rfl, rfl, rfl, rfl⟩ := h
    exact ⟨k1, k2, k3, k4, rfl⟩
theorem split5_e {a b c d e : Str} (es : Txt.split x y = [a, b, c, d, e]) (hF : Fr h₀ L s.heap m) (hN : News h₀ L s.heap news) (hy : (y.length == 0) = false) (hsz : x.length ≤ 1000)
    (h : ∀ k1 k2 k3 k4 k5 D h' k, Fr h₀ L h' m → News h₀ L h' ((D, PySem.W.listOf [.str a k1, .str b k2, .str c k3, .str d k4, .str e k5].toArray 0) :: news) → (∀ p ∈ news, p.1 < D) → Q (.ref D) { s with heap := h', toks := k }) :
    wpAny (model prog w) A (call (.builtin "str.split") [.str x t, .str y u]) Q E s := by
  refine splitN1 hF hN hy (fun l h' k hl F N => ?_) (by rw [PySem.sizeLine_eq]; omega)
  obtain ⟨k1, k2, k3, k4, k5, rfl⟩ := map_fst5 (hl.trans es)
  exact h k1 k2 k3 k4 k5 _ h' k F N fun p hp => Heap.lt_size (hN p hp).1
theorem split4_e {a b c d : Str} (es : Txt.split x y = [a, b, c, d]) (hF : Fr h₀ L s.heap m) (hN : News h₀ L s.heap news) (hy : (y.length == 0) = false) (hsz : x.length ≤ 1000)
    (h : ∀ k1 k2 k3 k4 D h' k, Fr h₀ L h' m → News h₀ L h' ((D, PySem.W.listOf [.str a k1, .str b k2, .str c k3, .str d k4].toArray 0) :: news) → (∀ p ∈ news, p.1 < D) → Q (.ref D) { s with heap := h', toks := k }) :
    wpAny (model prog w) A (call (.builtin "str.split") [.str x t, .str y u]) Q E s := by
  refine splitN1 hF hN hy (fun l h' k hl F N => ?_) (by rw [PySem.sizeLine_eq]; omega)
  obtain ⟨k1, k2, k3, k4, rfl⟩ := map_fst4 (hl.trans es)
  exact h k1 k2 k3 k4 _ h' k F N fun p hp => Heap.lt_size (hN p hp).1
end
noncomputable def s229 : Str := ⟨#[50, 50, 57]⟩
noncomputable def s227 : Str := ⟨#[50, 50, 55]⟩
noncomputable def mk1 (k : Nat) : Str := ⟨#[markOf k]⟩
noncomputable def body5 (k v : Nat) : Str := ⟨#[markOf k, markOf k, markOf k, 48 + v, markOf k]⟩
noncomputable def body4 (v : Nat) : Str := ⟨#[124, 124, 48 + v, 124]⟩
noncomputable def dig (v : Nat) : Str := ⟨#[48 + v]⟩
section
variable {k v : Nat}
theorem f_all : ∀ k : Nat, k < 6 → ∀ v : Nat, v < 6 → Txt.slice (lineOf k v) none (some 3) = s229 ∧ Txt.find (lineOf k v) (Str.ofString "(") = 7 ∧ Txt.find3 (lineOf k v) (Str.ofString ")") 8 = 13 ∧ Txt.item (lineOf k v) 8 = mk1 k ∧ Txt.item (lineOf k v) 12 = mk1 k ∧ Txt.slice (lineOf k v) (some 8) (some 13) = body5 k v ∧ Txt.split (body5 k v) (mk1 k) = [Str.ofString "", Str.ofString "", Str.ofString "", dig v, Str.ofString ""] ∧ (lineOf k v).length = 14 := by decide +kernel
theorem f_6 : ∀ v : Nat, v < 6 → Txt.slice (lineOf 6 v) none (some 3) = s229 ∧ Txt.find (lineOf 6 v) (Str.ofString "(") = 7 ∧ Txt.find3 (lineOf 6 v) (Str.ofString ")") 8 = 12 ∧ Txt.item (lineOf 6 v) 8 = mk1 6 ∧ Txt.item (lineOf 6 v) 11 = mk1 6 ∧ Txt.slice (lineOf 6 v) (some 8) (some 12) = body4 v ∧ Txt.split (body4 v) (mk1 6) = [Str.ofString "", Str.ofString "", dig v, Str.ofString ""] ∧ (lineOf 6 v).length = 13 := by decide +kernel
theorem f_7 : ∀ v : Nat, v < 6 → Txt.slice (lineOf 7 v) none (some 3) = s227 ∧ (lineOf 7 v).length = 14 := by decide +kernel
theorem d_all : ∀ v : Nat, v < 6 → PySem.intText? (dig v) = some (v : Int) := by decide +kernel
variable (hk : k < 6) (hv : v ≤ 5)
include hk hv
theorem f1 : Txt.slice (lineOf k v) none (some 3) = s229 := (f_all k hk v (by omega)).1
theorem f2 : Txt.find (lineOf k v) (Str.ofString "(") = 7 := (f_all k hk v (by omega)).2.1
theorem f3 : Txt.find3 (lineOf k v) (Str.ofString ")") 8 = 13 := (f_all k hk v (by omega)).2.2.1
theorem f4 : Txt.item (lineOf k v) 8 = mk1 k := (f_all k hk v (by omega)).2.2.2.1
theorem f5 : Txt.item (lineOf k v) 12 = mk1 k := (f_all k hk v (by omega)).2.2.2.2.1
theorem f6 : Txt.slice (lineOf k v) (some 8) (some 13) = body5 k v := (f_all k hk v (by omega)).2.2.2.2.2.1
theorem f7 : Txt.split (body5 k v) (mk1 k) = [Str.ofString "", Str.ofString "", Str.ofString "", dig v, Str.ofString ""] := (f_all k hk v (by omega)).2.2.2.2.2.2.1
theorem f8 : (lineOf k v).length = 14 := (f_all k hk v (by omega)).2.2.2.2.2.2.2
omit hk
theorem g1 : Txt.slice (lineOf 6 v) none (some 3) = s229 := (f_6 v (by omega)).1
theorem g2 : Txt.find (lineOf 6 v) (Str.ofString "(") = 7 := (f_6 v (by omega)).2.1
theorem g3 : Txt.find3 (lineOf 6 v) (Str.ofString ")") 8 = 12 := (f_6 v (by omega)).2.2.1
theorem g4 : Txt.item (lineOf 6 v) 8 = mk1 6 := (f_6 v (by omega)).2.2.2.1
theorem g5 : Txt.item (lineOf 6 v) 11 = mk1 6 := (f_6 v (by omega)).2.2.2.2.1
theorem g6 : Txt.slice (lineOf 6 v) (some 8) (some 12) = body4 v := (f_6 v (by omega)).2.2.2.2.2.1
theorem g7 : Txt.split (body4 v) (mk1 6) = [Str.ofString "", Str.ofString "", dig v, Str.ofString ""] := (f_6 v (by omega)).2.2.2.2.2.2.1
theorem g8 : (lineOf 6 v).length = 13 := (f_6 v (by omega)).2.2.2.2.2.2.2
theorem e1 : Txt.slice (lineOf 7 v) none (some 3) = s227 := (f_7 v (by omega)).1
theorem e8 : (lineOf 7 v).length = 14 := (f_7 v (by omega)).2
theorem dig_e : PySem.intText? (dig v) = some (v : Int) := d_all v (by omega)
end
theorem ne_229 : (s229 != Str.ofString "229") = false := by decide +kernel
theorem ne_227 : (s227 != Str.ofString "229") = true := by decide +kernel
theorem ne_mk (k : Nat) : (mk1 k != mk1 k) = false := by simp
theorem mk1_len (k : Nat) : (mk1 k).length = 1 := rfl
theorem body5_len (k v : Nat) : (body5 k v).length = 5 := rfl
theorem body4_len (v : Nat) : (body4 v).length = 4 := rfl
theorem dig_len (v : Nat) : (dig v).length = 1 := rfl
end Mine
end
section
open PySem PySem.W PyProof.Rows
namespace Mine
abbrev tupOf (vs : List Value) (n : Nat) : Obj := { cls := .type "tuple", data := .seq vs.toArray n }
/-- a call that hands a new pair back -/
def PureT (w : World) (f : Addr) (vs : List Value) (need : Nat) (inp : List (Addr × Obj)) (R : Tok → List Value) : Prop :=
  ∀ (mean : ExcName → Option Value) (mg mb : Str → Option Value) (dp un : Nat) (gd : Option (List Code)) (cn : Str) (cs : Scope) (a : Addr) (ccd : Value) (cl : List (Str × Addr)) (outer : List Env) (A₀ : Around) (base h₀ : Heap) (L : Addr) (m : Str → Option Value) (news : List (Addr × Obj)) (s : Shared) (Q E : Value → Shared → Prop),
    Below A₀ base outer h₀ → Fr h₀ L s.heap m → (Mine.hd.heap_1 w.params).In h₀ → News h₀ L s.heap (inp ++ news) → Top Mine.hd.view_1 (looseW Mine.hd.view_1 [Str.ofString "EXACT_TOKEN_TYPES"]) mean mg mb h₀ → cs.kind = .function →
    dp + need < recursionLimit → un + 8 * need < cLine →
    (∀ (D n : Nat) (t : Tok) (h' : Heap) (tk' : Nat), Fr h₀ L h' m → News h₀ L h' ((D, tupOf (R t) n) :: (inp ++ news)) → (∀ p ∈ inp ++ news, p.1 < D) → Q (.ref D) { s with heap := h', toks := tk' }) →
    wpAny (model PySem.Challenge.rw_wn0106_01.row.prog w) (ktrTop dp un gd cn cs L a ccd cl outer) (call (.ref f) vs) Q E s
section
set_option maxRecDepth 100000 in
set_option maxHeartbeats 1000000 in
theorem p229_c (w : World) (k v : Nat) (t : Tok) (p : Addr) (x0 x1 : Value) (n : Nat) (hk6 : k < 6) (hv : v ≤ 5) : PureT w 58 [.str (lineOf k v) t, .ref p] 10 [(p, tupOf [x0, x1] n)] (fun t => [x0, .int v t]) := by
  unfold PureT
  k_fill
  k_with_none
  intro mean mg mb dp un gd cn cs a ccd cl outer A₀ base h₀ L m news s Q E B F X N T hk hd hu hret
  k_with "!MyLen" => (first | omega | (rw [f8 (by assumption) (by assumption)]; omega) | (rw [body5_len]; omega) | (rw [mk1_len]; omega))
  k_with "!subscriptTail Name Slice str ref" => (((with_reducible rename Fr _ _ _ _ => F'); (with_reducible rename News _ _ _ _ => N'); first
    | (refine sl_ns (s := ⟨_, _, _, _, _⟩) (f1 (by assumption) (by assumption)) F' N' (by walk_at "MyLen") ?_; intro _ _ _ _ _; (try dsimp only))
    | (refine sl_ss (s := ⟨_, _, _, _, _⟩) (f6 (by assumption) (by assumption)) F' N' (by walk_at "MyLen") ?_; intro _ _ _ _ _; (try dsimp only))))
  k_with "!subscriptTail Name BinOp str int" => (first
    | (refine it_e (f4 (by assumption) (by assumption)) (by walk_at "MyLen") (by walk_at "MyLen") (by walk_at "MyLen") ?_; (try dsimp only))
    | (refine it_e (f5 (by assumption) (by assumption)) (by walk_at "MyLen") (by walk_at "MyLen") (by walk_at "MyLen") ?_; (try dsimp only)))
  k_with "!compareOp NotEq str str" => (first
     | (refine cmpn_e ne_229 ?_)
     | (refine cmpn_e (ne_mk _) ?_))
  k_with "!call builtin:str.find" => (first
     | (refine find_e (f2 (by assumption) (by assumption)) ?_)
     | (refine find3_e (f3 (by assumption) (by assumption)) ?_))
  k_with "!call builtin:str.split" => ((refine split5_e (f7 (by assumption) (by assumption)) (by assumption) (by assumption) rfl (by walk_at "MyLen") ?_; intro _ _ _ _ _ D' h' _ F' N' l1; (try dsimp only); (try k_lt l1); (try k_sweep)))
  k_with "!call type:int" => ((refine KIN.call_text (dig_e (by assumption)) (by rw [dig_len]; omega) ?_))
  refine wpAny_call ?_
  k_dflt cell_enter
  k_steps
  all_goals (refine hret _ _ _ _ _ (by assumption) (cb_drop (by assumption) (by kcf_all)) ?_)
  all_goals (rename _ ∧ AllLt _ _ => hl9; exact kst_ltOf hl9.2)
end
end Mine
end
section
open PySem PySem.W PyProof.Rows
namespace Mine
/-- a call that raises an exception of the text's own class C with the values ex -/
def RaiseX (w : World) (f : Addr) (vs : List Value) (need : Nat) (C : Addr) (ex : List Value) : Prop :=
  ∀ (mean : ExcName → Option Value) (mg mb : Str → Option Value) (dp un : Nat) (gd : Option (List Code)) (cn : Str) (cs : Scope) (a : Addr) (ccd : Value) (cl : List (Str × Addr)) (outer : List Env) (A₀ : Around) (base h₀ : Heap) (L : Addr) (m : Str → Option Value) (news : List (Addr × Obj)) (s : Shared) (Q E : Value → Shared → Prop),
    Below A₀ base outer h₀ → Fr h₀ L s.heap m → (Mine.hd.heap_1 w.params).In h₀ → News h₀ L s.heap news → Top Mine.hd.view_1 (looseW Mine.hd.view_1 [Str.ofString "EXACT_TOKEN_TYPES"]) mean mg mb h₀ → cs.kind = .function →
    dp + need < recursionLimit → un + 8 * need < cLine →
    (∀ (e t : Addr) (g h' : Heap) (tk' : Nat), Fr h₀ L g m → g.UpToSlots h' → RaisedK base (envX cn cs L a ccd cl :: outer) e (.ref C) t ex news h' → E (.ref e) { s with heap := h', toks := tk' }) →
    wpAny (model PySem.Challenge.rw_wn0106_01.row.prog w) (ktrTop dp un gd cn cs L a ccd cl outer) (call (.ref f) vs) Q E s
theorem raised_drop {base h : Heap} {l : List Env} {e t : Addr} {c : Value} {vs : List Value} {news news' : List (Addr × Obj)} (R : RaisedK base l e c t vs news' h) (hs : ∀ p ∈ news, p ∈ news') : RaisedK base l e c t vs news h := by
  obtain ⟨⟨B, h1, h2, h3, h4⟩, h5⟩ := R
  exact ⟨⟨B, h1, fun q hq => h2 q (hs q hq), h3, h4⟩, h5⟩
theorem RaiseX.use {w : World} {f : Addr} {vs : List Value} {need : Nat} {C : Addr} {ex : List Value} (H : RaiseX w f vs need C ex)
    {mean : ExcName → Option Value} {mg mb : Str → Option Value} {dp un : Nat} {gd : Option (List Code)} {cn : Str} {cs : Scope} {a : Addr} {ccd : Value} {cl : List (Str × Addr)} {outer : List Env} {A₀ : Around} {base h₀ : Heap} {L : Addr} {m : Str → Option Value} {news : List (Addr × Obj)} {s : Shared} {Q E : Value → Shared → Prop}
    (B : Below A₀ base outer h₀) (F : Fr h₀ L s.heap m) (X : (Mine.hd.heap_1 w.params).In h₀) (N : News h₀ L s.heap news) (T : Top Mine.hd.view_1 (looseW Mine.hd.view_1 [Str.ofString "EXACT_TOKEN_TYPES"]) mean mg mb h₀) (hk : cs.kind = .function)
    (hd : dp + need < recursionLimit) (hu : un + 8 * need < cLine)
    (ret : ∀ (e t : Addr) (g h' : Heap) (tk' : Nat), Fr h₀ L g m → g.UpToSlots h' → RaisedK base (envX cn cs L a ccd cl :: outer) e (.ref C) t ex news h' → E (.ref e) { s with heap := h', toks := tk' }) :
    wpAny (model PySem.Challenge.rw_wn0106_01.row.prog w) (ktrTop dp un gd cn cs L a ccd cl outer) (call (.ref f) vs) Q E s := H _ _ _ _ _ _ _ _ _ _ _ _ _ _ _ _ _ _ _ _ _ B F X N T hk hd hu ret
section
set_option maxRecDepth 100000 in
set_option maxHeartbeats 1000000 in
theorem p229_7 (w : World) (v : Nat) (t : Tok) (p : Addr) (hv : v ≤ 5) : RaiseX w 58 [.str (lineOf 7 v) t, .ref p] 10 37 [.str (lineOf 7 v) t] := by
  unfold RaiseX
  k_fill
  k_with_none
  intro mean mg mb dp un gd cn cs a ccd cl outer A₀ base h₀ L m news s Q E B F X N T hk hd hu hret
  k_with "!MyLen" => (first | omega | (rw [e8 (by assumption)]; omega))
  k_with "!subscriptTail Name Slice str ref" => (((with_reducible rename Fr _ _ _ _ => F'); (with_reducible rename News _ _ _ _ => N'); first
    | (refine sl_ns (s := ⟨_, _, _, _, _⟩) (e1 (by assumption)) F' N' (by walk_at "MyLen") ?_; intro _ _ _ _ _; (try dsimp only))))
  k_with "!compareOp NotEq str str" => ((refine cmpn_e ne_227 ?_))
  refine wpAny_call ?_
  k_dflt cell_enter
  k_steps
  all_goals exact hret _ _ _ _ _ (by assumption) (by assumption) (by assumption)
end
section
set_option maxRecDepth 100000 in
set_option maxHeartbeats 1000000 in
theorem p229_6 (w : World) (v : Nat) (t : Tok) (p : Addr) (hv : v ≤ 5) : RaiseX w 58 [.str (lineOf 6 v) t, .ref p] 10 49 [.str (lineOf 6 v) t] := by
  unfold RaiseX
  k_fill
  k_with_none
  intro mean mg mb dp un gd cn cs a ccd cl outer A₀ base h₀ L m news s Q E B F X N T hk hd hu hret
  k_with "!MyLen" => (first | omega | (rw [g8 (by assumption)]; omega) | (rw [body4_len]; omega) | (rw [mk1_len]; omega))
  k_with "!subscriptTail Name Slice str ref" => (((with_reducible rename Fr _ _ _ _ => F'); (with_reducible rename News _ _ _ _ => N'); first
    | (refine sl_ns (s := ⟨_, _, _, _, _⟩) (g1 (by assumption)) F' N' (by walk_at "MyLen") ?_; intro _ _ _ _ _; (try dsimp only))
    | (refine sl_ss (s := ⟨_, _, _, _, _⟩) (g6 (by assumption)) F' N' (by walk_at "MyLen") ?_; intro _ _ _ _ _; (try dsimp only))))
  k_with "!subscriptTail Name BinOp str int" => (first
    | (refine it_e (g4 (by assumption)) (by walk_at "MyLen") (by walk_at "MyLen") (by walk_at "MyLen") ?_; (try dsimp only))
    | (refine it_e (g5 (by assumption)) (by walk_at "MyLen") (by walk_at "MyLen") (by walk_at "MyLen") ?_; (try dsimp only)))
  k_with "!compareOp NotEq str str" => (first
     | (refine cmpn_e ne_229 ?_)
     | (refine cmpn_e (ne_mk _) ?_))
  k_with "!call builtin:str.find" => (first
     | (refine find_e (g2 (by assumption)) ?_)
     | (refine find3_e (g3 (by assumption)) ?_))
  k_with "!call builtin:str.split" => ((refine split4_e (g7 (by assumption)) (by assumption) (by assumption) rfl (by walk_at "MyLen") ?_; intro _ _ _ _ D' h' _ F' N' l1; (try dsimp only); (try k_lt l1); (try k_sweep)))
  refine wpAny_call ?_
  k_dflt cell_enter
  k_steps
  all_goals exact hret _ _ _ _ _ (by assumption) (by assumption) (raised_drop (by assumption) (by kcf_all))
end
end Mine
end
section
open PySem PySem.W PyProof.Rows
namespace Mine
/-- the lines' own walk: kinds and values, as many numbers held -/
inductive Talk : Nat → List (Nat × Nat) → Nat → Prop
  | nil (h : Nat) : Talk h [] h
  | held {h e : Nat} {k v : Nat} {r : List (Nat × Nat)} : k < 6 → v ≤ 5 → Talk (h + 1) r e → Talk h ((k, v) :: r) e
  | bad {h e : Nat} {k v : Nat} {r : List (Nat × Nat)} : k = 6 ∨ k = 7 → v ≤ 5 → Talk h r e → Talk h ((k, v) :: r) e
  | one {h e : Nat} {k : Nat} {r : List (Nat × Nat)} : k = 13 ∨ k = 14 → Talk (h + 1) r e → Talk (h + 1) ((k, 0) :: r) e
  | two {h e : Nat} {k : Nat} {r : List (Nat × Nat)} : 8 ≤ k → k ≤ 12 → Talk (h + 1) r e → Talk (h + 2) ((k, 0) :: r) e
theorem Talk.append {h e f : Nat} {a b : List (Nat × Nat)} (x : Talk h a e) (y : Talk e b f) : Talk h (a ++ b) f := by
  induction x with
  | nil h => exact y
  | held h1 h2 _ ih => exact .held h1 h2 (ih y)
  | bad h1 h2 _ ih => exact .bad h1 h2 (ih y)
  | one h1 _ ih => exact .one h1 (ih y)
  | two h1 h2 _ ih => exact .two h1 h2 (ih y)
noncomputable def itemDat (p : Nat × Nat) : Dat := .tuple [.int (p.1 : Int), .int (p.2 : Int)]
/-- between the turns -/
def WIt (p : Nat) (ds : List Dat) (held : Int) : Prop := ∃ its e, ds = its.map itemDat ∧ its.length = p ∧ held = ((e : Nat) : Int) ∧ Talk 0 its e
theorem WIt.start : WIt 0 [] 0 := ⟨[], 0, rfl, rfl, rfl, .nil 0⟩
theorem WIt.step {p : Nat} {ds : List Dat} {held held' x y : Int} {k v : Nat} (W : WIt p ds held) (hx : x = (k : Int)) (hy : y = (v : Int)) (hs : ∀ e : Nat, held = (e : Int) → ∃ f : Nat, held' = (f : Int) ∧ Talk e [(k, v)] f) : WIt (p + 1) (ds ++ [Dat.tuple [Dat.int x, Dat.int y]]) held' := by
  obtain ⟨its, e, rfl, hl, he, ht⟩ := W
  obtain ⟨f, hf, hT⟩ := hs e he
  subst hx hy
  exact ⟨its ++ [(k, v)], f, by simp [itemDat], by simp [hl], hf, ht.append hT⟩
section
variable {pre : List Int} {ds : List Dat} {held n : Int}
theorem it_0 : ([] : List Dat).length = ([] : List Int).length ∧ WIt ([] : List Int).length [] 0 := ⟨rfl, WIt.start⟩
theorem it_nat {a b : Int} (hb : 0 < b) : ∃ k : Nat, a.fmod b = (k : Int) ∧ (k : Int) < b := by
  have h0 := Int.fmod_nonneg_of_pos a hb
  have h1 := Int.fmod_lt_of_pos a hb
  exact ⟨(a.fmod b).toNat, by omega, by omega⟩
theorem it_A1 (l : ds.length = pre.length) (W : WIt pre.length ds held) (h : (n.fdiv 18).fmod 8 < 6) : (ds ++ [Dat.tuple [Dat.int ((n.fdiv 18).fmod 8), Dat.int ((n.fdiv 3).fmod 6)]]).length = (pre ++ [n]).length ∧ WIt (pre ++ [n]).length (ds ++ [Dat.tuple [Dat.int ((n.fdiv 18).fmod 8), Dat.int ((n.fdiv 3).fmod 6)]]) (held + 1) := by
  obtain ⟨k, hk, _⟩ := it_nat (a := n.fdiv 18) (b := 8) (by omega)
  obtain ⟨v, hv, _⟩ := it_nat (a := n.fdiv 3) (b := 6) (by omega)
  refine ⟨by simp [l], ?_⟩
  rw [List.length_append, List.length_singleton]
  exact W.step hk hv fun e he => ⟨e + 1, by omega, .held (by omega) (by omega) (.nil _)⟩
theorem it_A2 (l : ds.length = pre.length) (W : WIt pre.length ds held) (h : ¬ (n.fdiv 18).fmod 8 < 6) : (ds ++ [Dat.tuple [Dat.int ((n.fdiv 18).fmod 8), Dat.int ((n.fdiv 3).fmod 6)]]).length = (pre ++ [n]).length ∧ WIt (pre ++ [n]).length (ds ++ [Dat.tuple [Dat.int ((n.fdiv 18).fmod 8), Dat.int ((n.fdiv 3).fmod 6)]]) held := by
  obtain ⟨k, hk, _⟩ := it_nat (a := n.fdiv 18) (b := 8) (by omega)
  obtain ⟨v, hv, _⟩ := it_nat (a := n.fdiv 3) (b := 6) (by omega)
  refine ⟨by simp [l], ?_⟩
  rw [List.length_append, List.length_singleton]
  exact W.step hk hv fun e he => ⟨e, by omega, .bad (by omega) (by omega) (.nil _)⟩
theorem it_B (l : ds.length = pre.length) (W : WIt pre.length ds held) (h : held = 1) : (ds ++ [Dat.tuple [Dat.int (13 + (n.fdiv 3).fmod 2), Dat.int 0]]).length = (pre ++ [n]).length ∧ WIt (pre ++ [n]).length (ds ++ [Dat.tuple [Dat.int (13 + (n.fdiv 3).fmod 2), Dat.int 0]]) held := by
  obtain ⟨v, hv, _⟩ := it_nat (a := n.fdiv 3) (b := 2) (by omega)
  refine ⟨by simp [l], ?_⟩
  rw [List.length_append, List.length_singleton]
  refine W.step (k := 13 + v) (v := 0) (by omega) (by omega) fun e he => ⟨e, by omega, ?_⟩
  obtain rfl : e = 1 := by omega
  exact .one (by omega) (.nil _)
theorem it_C1 (l : ds.length = pre.length) (W : WIt pre.length ds held) (h0 : held ≠ 0) (h1 : held ≠ 1) (h : (n.fdiv 3).fmod 7 < 5) : (ds ++ [Dat.tuple [Dat.int (8 + (n.fdiv 3).fmod 7), Dat.int 0]]).length = (pre ++ [n]).length ∧ WIt (pre ++ [n]).length (ds ++ [Dat.tuple [Dat.int (8 + (n.fdiv 3).fmod 7), Dat.int 0]]) (held - 1) := by
  obtain ⟨v, hv, _⟩ := it_nat (a := n.fdiv 3) (b := 7) (by omega)
  refine ⟨by simp [l], ?_⟩
  rw [List.length_append, List.length_singleton]
  refine W.step (k := 8 + v) (v := 0) (by omega) (by omega) fun e he => ⟨e - 1, by omega, ?_⟩
  obtain ⟨g, rfl⟩ : ∃ g, e = g + 2 := ⟨e - 2, by omega⟩
  exact .two (by omega) (by omega) (.nil _)
theorem it_C2 (l : ds.length = pre.length) (W : WIt pre.length ds held) (h0 : held ≠ 0) (h1 : held ≠ 1) (h : ¬ (n.fdiv 3).fmod 7 < 5) : (ds ++ [Dat.tuple [Dat.int (8 + (n.fdiv 3).fmod 7), Dat.int 0]]).length = (pre ++ [n]).length ∧ WIt (pre ++ [n]).length (ds ++ [Dat.tuple [Dat.int (8 + (n.fdiv 3).fmod 7), Dat.int 0]]) held := by
  obtain ⟨v, hv, _⟩ := it_nat (a := n.fdiv 3) (b := 7) (by omega)
  refine ⟨by simp [l], ?_⟩
  rw [List.length_append, List.length_singleton]
  refine W.step (k := 8 + v) (v := 0) (by omega) (by omega) fun e he => ⟨e, by omega, ?_⟩
  obtain ⟨g, rfl⟩ : ∃ g, e = g + 1 := ⟨e - 1, by omega⟩
  exact .one (by omega) (.nil _)
end
end Mine
end
section
open PySem PySem.W PyProof.Rows
namespace Mine
set_option maxRecDepth 100000 in
set_option maxHeartbeats 1000000 in
theorem items_c (w : World) (l : Addr) (vs : List Value) (ns : List Int) (hi : IntsAre vs ns) (hns : ns.length ≤ 63) :
  ∀ (mean : ExcName → Option Value) (mg mb : Str → Option Value) (dp un : Nat) (gd : Option (List Code)) (cn : Str) (cs : Scope) (a : Addr) (ccd : Value) (cl : List (Str × Addr)) (outer : List Env) (A₀ : Around) (base h₀ : Heap) (L : Addr) (m : Str → Option Value) (news : List (Addr × Obj)) (s : Shared) (Q E : Value → Shared → Prop),
    Below A₀ base outer h₀ → Fr h₀ L s.heap m → (Mine.hd.heap_1 w.params).In h₀ → News h₀ L s.heap news → Top Mine.hd.view_1 (looseW Mine.hd.view_1 [Str.ofString "EXACT_TOKEN_TYPES"]) mean mg mb h₀ → cs.kind = .function →
    dp + 10 < recursionLimit → un + 8 * 10 < cLine → base.IsList l vs.toArray →
    (∀ (D n : Nat) (us : List Value) (items : List (Nat × Nat)) (tl : List (Addr × Obj)) (h' : Heap) (tk' : Nat), Fr h₀ L h' m → News h₀ L h' ((D, PySem.W.listOf us.toArray n) :: (tl ++ news)) → DatAll (tl ++ news) us (items.map itemDat) → items.length = 12 → (∃ e, Talk 0 items e) → Q (.ref D) { s with heap := h', toks := tk' }) →
    wpAny (model PySem.Challenge.rw_wn0106_01.row.prog w) (ktrTop dp un gd cn cs L a ccd cl outer) (call (.ref 117) [.ref l]) Q E s := by
  k_fill
  k_with_none
  intro mean mg mb dp un gd cn cs a ccd cl outer A₀ base h₀ L m news s Q E B F X N T hk hd hu hl hret
  k_with "!InvEndN" => k_dflt kst_close
  k_with "pyIter ref" => (k_of "k" => k_state (fun pre sums => sums.length = 12) "sums")
  k_with "pyIter ref" => (k_of "v" => k_dat (fun (pre : List Int) items held => items.length = pre.length ∧ WIt pre.length items held) "items*" "held")
  k_with "state" => first
    | exact (rfl : ([15, 24, 1, 51, 7, 13, 66, 4, 111, 16, 81, 10] : List Int).length = 12)
    | exact ((List.length_set ..).trans (by assumption))
    | exact it_0
    | exact it_A1 (by assumption) (by assumption) (by assumption)
    | exact it_A2 (by assumption) (by assumption) (by assumption)
    | exact it_B (by assumption) (by assumption) (by assumption)
    | exact it_C1 (by assumption) (by assumption) (by assumption) (by assumption) (by assumption)
    | exact it_C2 (by assumption) (by assumption) (by assumption) (by assumption) (by assumption)
  refine wpAny_call ?_
  k_dflt cell_enter
  k_steps
  all_goals (
    rename WIt _ _ _ => hW
    rename News _ _ _ (_ :: _ :: (_ ++ _)) => hN9
    rename DatAll _ _ _ => hD9
    obtain ⟨its, e, h1, h2, h3, h4⟩ := hW
    subst h1
    refine hret _ _ _ its (_ :: _) _ _ (by assumption) (cb_drop (by assumption) (by kcf_all)) (DatAll.mono ?_ (by assumption)) (by omega) ⟨e, h4⟩
    kcf_all)
  k_with_none
end Mine
end
section
open PySem PySem.W PyProof.Rows
namespace Mine
noncomputable def runDat (n : Nat) : Dat := .str (rep 34 n)
noncomputable def lineDat (p : Nat × Nat) : Dat := .str (lineOf p.1 p.2)
/-- the numbers held behind a line -/
noncomputable def pops (k v : Nat) (held : List Nat) : List Nat :=
  if k < 6 then held ++ [v] else if k ≤ 7 then held
  else if k = 13 then held.dropLast ++ [held.getLast?.getD 0 / 2]
  else if k = 14 then held.dropLast ++ [held.getLast?.getD 0 % 2]
  else held.dropLast.dropLast ++ [two (k - 8) (held.dropLast.getLast?.getD 0) (held.getLast?.getD 0)]
/-- what a line's reply adds to the book -/
noncomputable def said (k v n : Nat) : List Dat :=
  if k < 6 then [.int (n : Int)] else if k = 6 then [.str (Str.ofString "proto " ++ lineOf 6 v)] else if k = 7 then [.str (Str.ofString "reply " ++ lineOf 7 v)] else []
noncomputable def lets (held : List Nat) : Array UInt8 := ((66 : UInt8) :: held.map fun x => UInt8.ofNat (65 + x)).toArray
noncomputable def tailD (held : List Nat) : List Dat := [.list (held.map runDat), .bytes (lets held)]
noncomputable def deskStep (st : List Nat × List Dat) (p : Nat × Nat) : List Nat × List Dat := (pops p.1 p.2 st.1, st.2 ++ said p.1 p.2 st.2.length ++ tailD (pops p.1 p.2 st.1))
noncomputable def deskF (its : List (Nat × Nat)) : List Nat × List Dat := its.foldl deskStep ([], [])
theorem deskF_snoc (its : List (Nat × Nat)) (p : Nat × Nat) : deskF (its ++ [p]) = deskStep (deskF its) p := by simp [deskF]
/-- what the desk's loop knows -/
structure WDesk (items : List (Nat × Nat)) (p : Nat) (runs book : List Dat) : Prop where
  runs : runs = (deskF (items.take p)).1.map runDat
  book : book = (deskF (items.take p)).2
theorem WDesk.start (items : List (Nat × Nat)) : WDesk items 0 [] [] := ⟨rfl, rfl⟩
/-- held numbers are small -/
theorem two_le {k b t : Nat} (hb : b ≤ 5) (ht : t ≤ 5) : two k b t ≤ 5 := by
  unfold two
  split <;> (try split) <;> omega
theorem getLast_le {l : List Nat} (h : ∀ x ∈ l, x ≤ 5) : l.getLast?.getD 0 ≤ 5 := by
  cases e : l.getLast? with
  | none => simp
  | some x => simpa using h x (List.mem_of_getLast? e)
theorem pops_small {k v : Nat} {held : List Nat} (hv : v ≤ 5) (h : ∀ x ∈ held, x ≤ 5) : ∀ x ∈ pops k v held, x ≤ 5 := by
  have hd : ∀ x ∈ held.dropLast, x ≤ 5 := fun x hx => h x (List.dropLast_subset _ hx)
  have hdd : ∀ x ∈ held.dropLast.dropLast, x ≤ 5 := fun x hx => hd x (List.dropLast_subset _ hx)
  have h1 := getLast_le h
  have h2 := getLast_le hd
  have h3 := two_le (k := k - 8) h2 h1
  intro x hx
  unfold pops at hx
  split at hx
  · rcases List.mem_append.mp hx with hx | hx
    · exact h x hx
    · rw [List.mem_singleton.mp hx]; exact hv
  · split at hx
    · exact h x hx
    · split at hx
      · rcases List.mem_append.mp hx with hx | hx
        · exact hd x hx
        · rw [List.mem_singleton.mp hx]; omega
      · split at hx
        · rcases List.mem_append.mp hx with hx | hx
          · exact hd x hx
          · rw [List.mem_singleton.mp hx]; omega
        · rcases List.mem_append.mp hx with hx | hx
          · exact hdd x hx
          · rw [List.mem_singleton.mp hx]; exact h3
theorem talk_v {h e : Nat} {its : List (Nat × Nat)} (T : Talk h its e) : ∀ p ∈ its, p.2 ≤ 5 ∧ p.1 ≤ 14 := by
  induction T with
  | nil => intro p hp; cases hp
  | held h1 h2 _ ih => intro p hp; rcases List.mem_cons.mp hp with rfl | hp; exact ⟨h2, by show _ ≤ 14; omega⟩; exact ih p hp
  | bad h1 h2 _ ih => intro p hp; rcases List.mem_cons.mp hp with rfl | hp; exact ⟨h2, by show _ ≤ 14; omega⟩; exact ih p hp
  | one h1 _ ih => intro p hp; rcases List.mem_cons.mp hp with rfl | hp; exact ⟨by show 0 ≤ 5; omega, by show _ ≤ 14; omega⟩; exact ih p hp
  | two h1 h2 _ ih => intro p hp; rcases List.mem_cons.mp hp with rfl | hp; exact ⟨by show 0 ≤ 5; omega, by show _ ≤ 14; omega⟩; exact ih p hp
theorem small_foldl {its : List (Nat × Nat)} (hv : ∀ p ∈ its, p.2 ≤ 5 ∧ p.1 ≤ 14) : ∀ st : List Nat × List Dat, (∀ x ∈ st.1, x ≤ 5) → ∀ x ∈ (its.foldl deskStep st).1, x ≤ 5 := by
  induction its with
  | nil => intro st h; exact h
  | cons p r ih =>
    intro st h
    rw [List.foldl_cons]
    exact ih (fun q hq => hv q (.tail _ hq)) _ (pops_small (hv p (.head _)).1 h)
/-- the talk from a place on -/
theorem talk_at {items : List (Nat × Nat)} : ∀ {h e : Nat} {n : Nat} {st : List Nat × List Dat}, Talk h items e → st.1.length = h → n ≤ items.length → Talk ((items.take n).foldl deskStep st).1.length (items.drop n) e := by
  induction items with
  | nil => intro h e n st T hl hn; simp at hn; subst hn; simpa [hl] using T
  | cons p r ih =>
    intro h e n st T hl hn
    cases n with
    | zero => simpa [hl] using T
    | succ n =>
      rw [List.take_succ_cons, List.foldl_cons, List.drop_succ_cons]
      have hn' : n ≤ r.length := by simpa using hn
      cases T with
      | held h1 h2 T => exact ih T (by simp [deskStep, pops, h1, hl]) hn'
      | bad h1 h2 T => exact ih T (by simp only [deskStep, pops]; rw [if_neg (by omega), if_pos (by omega)]; exact hl) hn'
      | one h1 T =>
        refine ih T ?_ hn'
        simp only [deskStep, pops]
        rw [if_neg (by omega), if_neg (by omega)]
        rcases h1 with rfl | rfl <;> simp [hl]
      | two h1 h2 T =>
        refine ih T ?_ hn'
        simp only [deskStep, pops]
        rw [if_neg (by omega), if_neg (by omega), if_neg (by omega), if_neg (by omega)]
        simp [hl]
/-- the sum of a run of runs -/
noncomputable def totD (ds : List Dat) : Int := ds.foldl (fun t d => match d with | .str x => 16 * t + (x.length : Int) | _ => t) 1
theorem totD_snoc (ds : List Dat) (x : Str) : totD (ds ++ [.str x]) = 16 * totD ds + (x.length : Int) := by simp [totD]
noncomputable def tot (held : List Nat) : Nat := held.foldl (fun t x => 16 * t + x) 1
theorem totD_runs (held : List Nat) : totD (held.map runDat) = (tot held : Int) := by
  have : ∀ t : Nat, (held.map runDat).foldl (fun (t : Int) d => match d with | .str x => 16 * t + (x.length : Int) | _ => t) (t : Int) = ((held.foldl (fun t x => 16 * t + x) t : Nat) : Int) := by
    induction held with
    | nil => intro t; rfl
    | cons n r ih =>
      intro t
      rw [List.map_cons, List.foldl_cons, List.foldl_cons, ← ih]
      congr 1
      simp only [runDat, rep_len]
      push_cast
      rfl
  exact this 1
theorem tot_ap : ∀ (held : List Nat) (t : Nat) (acc : List UInt8), t ≠ 0 → (∀ x ∈ held, x ≤ 5) → ap (held.foldl (fun t x => 16 * t + x) t) acc = ap t (held.map (fun x => UInt8.ofNat (65 + x)) ++ acc) := by
  intro held
  induction held with
  | nil => intro t acc _ _; rfl
  | cons n r ih =>
    intro t acc ht h
    have hn : n ≤ 5 := h n (.head _)
    rw [List.foldl_cons, ih _ _ (by omega) (fun x hx => h x (.tail _ hx)), ap_step (by omega), show (16 * t + n) / 16 = t by omega, show (16 * t + n) % 16 = n by omega]
    rfl
theorem tot_nd : ∀ (held : List Nat) (t : Nat), t ≠ 0 → (∀ x ∈ held, x ≤ 5) → nd (held.foldl (fun t x => 16 * t + x) t) = nd t + held.length := by
  intro held
  induction held with
  | nil => intro t _ _; rfl
  | cons n r ih =>
    intro t ht h
    have hn : n ≤ 5 := h n (.head _)
    rw [List.foldl_cons, ih _ (by omega) (fun x hx => h x (.tail _ hx)), nd_step (n := 16 * t + n) (by omega), show (16 * t + n) / 16 = t by omega, List.length_cons]
    omega
theorem tot_lets {held : List Nat} (h : ∀ x ∈ held, x ≤ 5) : (ap (tot held) []).toArray = lets held := by
  unfold tot lets
  rw [tot_ap held 1 [] (by omega) h, ap_step (by omega), show 1 / 16 = 0 from rfl, ap_zero, List.append_nil]
  rfl
theorem tot_figs {held : List Nat} (h : ∀ x ∈ held, x ≤ 5) : nd (tot held) = held.length + 1 := by
  unfold tot
  rw [tot_nd held 1 (by omega) h, nd_step (by omega), show 1 / 16 = 0 from rfl, nd_zero]
  omega
theorem tot_c (w : World) (held : List Nat) (t : Tok) (x : Int) (hx : x = -totD (held.map runDat)) (hl : held.length ≤ 50) (h : ∀ x ∈ held, x ≤ 5) : Pure1 w 72 [.int x t] 5 (fun t => .bytes (lets held) t) := by
  have e : x.natAbs = tot held := by rw [hx, totD_runs]; omega
  have := ap_c w x t (by rw [e, tot_figs h]; omega)
  rw [e, tot_lets h] at this
  exact this
end Mine
end
section
open PySem PySem.W PySem.Calls PySem.Spec PyProof.Rows
namespace Mine
noncomputable def tokL : List (String × Int) := [("!", 54), ("!=", 28), ("%", 24), ("%=", 40), ("&", 19), ("&=", 41), ("(", 7), (")", 8), ("*", 16), ("**", 35), ("**=", 46), ("*=", 38), ("+", 14), ("+=", 36), (",", 12), ("-", 15), ("-=", 37), ("->", 51), (".", 23), ("...", 52), ("/", 17), ("//", 47), ("//=", 48), ("/=", 39), (":", 11), (":=", 53), (";", 13), ("<", 20), ("<<", 33), ("<<=", 44), ("<=", 29), ("=", 22), ("==", 27), (">", 21), (">=", 30), (">>", 34), (">>=", 45), ("@", 49), ("@=", 50), ("[", 9), ("]", 10), ("^", 32), ("^=", 43), ("{", 25), ("|", 18), ("|=", 42), ("}", 26), ("~", 31)]
noncomputable def tokD : List (Str × KTD.Dat) := tokL.map fun p => (Str.ofString p.1, KTD.Dat.flat (.int p.2))
theorem tok_tab (w : World) {h : Heap} (X : (Mine.hd.heap_1 w.params).In h) : KTD.TextTab h 73 tokD := kt_text_in X (by kernel_rfl)
theorem tok_low_all : ∀ k : Nat, k < 8 → ∀ v : Nat, v < 6 → (KTD.datumAt (lineOf k v) tokD).isNone = true := by decide +kernel
theorem tok_low {k v : Nat} (hk : k < 8) (hv : v ≤ 5) : KTD.datumAt (lineOf k v) tokD = none := by
  have := tok_low_all k hk v (by omega)
  exact Option.isNone_iff_eq_none.mp this
theorem tok_two {k : Nat} (h8 : 8 ≤ k) (h12 : k ≤ 12) : KTD.datumAt (lineOf k 0) tokD = some (.flat (.int (twoTok (k - 8)))) := by
  obtain rfl | rfl | rfl | rfl | rfl : k = 8 ∨ k = 9 ∨ k = 10 ∨ k = 11 ∨ k = 12 := by omega
  all_goals kernel_rfl
theorem tok_13 : KTD.datumAt (lineOf 13 0) tokD = some (.flat (.int 47)) := by kernel_rfl
theorem tok_14 : KTD.datumAt (lineOf 14 0) tokD = some (.flat (.int 24)) := by kernel_rfl
section
variable {w : World} {A : Around} {E : Value → Shared → Prop} {s : Shared} {h₀ : Heap} {L : Addr} {m : Str → Option Value} {x : Str} {t : Tok} {dflt : Value} {n : Int} {Q : Value → Shared → Prop}
theorem tok_meth {pl : Sem Bool} {Q : Value × List Value → Shared → Prop} (X : (Mine.hd.heap_1 w.params).In h₀) (F : Fr h₀ L s.heap m) (h : Q (.builtin "dict.get", [.ref 73]) s) : wpAny (model PySem.Challenge.rw_wn0106_01.row.prog w) A (getMethod (.ref 73) "get" pl) Q E s :=
  KTD.getMethod_text (T := (⟨tok_tab w X, F.keep⟩ : KTD.Here h₀ s.heap 73 tokD)) h
theorem tok_hit (X : (Mine.hd.heap_1 w.params).In h₀) (F : Fr h₀ L s.heap m) (ha : KTD.datumAt x tokD = some (.flat (.int n))) (h : ∀ t', Q (.int n t') { s with toks := s.toks + 1 }) :
    wpAny (model PySem.Challenge.rw_wn0106_01.row.prog w) A (call (.builtin "dict.get") [.ref 73, .str x t, dflt]) Q E s := by
  have T : KTD.Here h₀ s.heap 73 tokD := ⟨tok_tab w X, F.keep⟩
  refine call_meetsIn PySem.F.slot_dict_get T.typeIs PySem.F.entry_dict_get (PySem.F.args_dict_get_3 _ _ _) (KTD.meets_get2 (h₀ := h₀) (D := tokD)) ⟨T, fun d v hd hv => ?_, fun hn => ?_⟩
  · rw [ha] at hd
    cases hd
    obtain ⟨t', rfl⟩ := PyProof.V.Flat.int_inv hv
    exact h t'
  · rw [ha] at hn; cases hn
theorem tok_miss (X : (Mine.hd.heap_1 w.params).In h₀) (F : Fr h₀ L s.heap m) (ha : KTD.datumAt x tokD = none) (h : Q dflt { s with toks := s.toks + 1 }) :
    wpAny (model PySem.Challenge.rw_wn0106_01.row.prog w) A (call (.builtin "dict.get") [.ref 73, .str x t, dflt]) Q E s := by
  have T : KTD.Here h₀ s.heap 73 tokD := ⟨tok_tab w X, F.keep⟩
  refine call_meetsIn PySem.F.slot_dict_get T.typeIs PySem.F.entry_dict_get (PySem.F.args_dict_get_3 _ _ _) (KTD.meets_get2 (h₀ := h₀) (D := tokD)) ⟨T, fun d v hd hv => ?_, fun _ => h⟩
  rw [ha] at hd; cases hd
end
end Mine
end
section
open PySem PySem.W PySem.Calls PyProof.Rows
namespace Mine
theorem datin_str {L : List (Addr × Obj)} {v : Value} {x : Str} (h : DatIn L v (.str x)) : ∃ t, v = .str x t := by
  cases h; exact ⟨_, rfl⟩
theorem line_at {items : List (Nat × Nat)} {pre post : List Dat} {d : Dat} (e : items.map lineDat = pre ++ d :: post) : ∃ k v, items[pre.length]? = some (k, v) ∧ d = .str (lineOf k v) := by
  have h1 : (items.map lineDat)[pre.length]? = some d := by rw [e]; simp
  rw [List.getElem?_map] at h1
  cases h2 : items[pre.length]? with
  | none => rw [h2] at h1; cases h1
  | some p =>
    rw [h2] at h1
    obtain ⟨k, v⟩ := p
    exact ⟨k, v, rfl, by simpa [lineDat] using h1.symm⟩
theorem last_of {α : Type} : ∀ {l : List α}, 0 < l.length → ∃ H x, l = H ++ [x]
  | [], h => absurd h (by simp)
  | a :: r, _ => ⟨(a :: r).dropLast, (a :: r).getLast (by simp), (List.dropLast_concat_getLast (by simp)).symm⟩
theorem all_snoc {L : List (Addr × Obj)} {us : List Value} {H : List Nat} {x : Nat} (h : DatAll L us ((H ++ [x]).map runDat)) : ∃ ws t, us = ws ++ [.str (rep 34 x) t] ∧ DatAll L ws (H.map runDat) := by
  rw [List.map_append, List.map_cons, List.map_nil] at h
  have hl := h.length
  obtain ⟨ws, v, rfl⟩ := last_of (l := us) (by rw [hl]; simp)
  obtain ⟨es, d, he, h1, h2⟩ := h.snoc
  obtain ⟨e1, e2⟩ := List.append_inj' he rfl
  obtain rfl : d = runDat x := by simpa using e2.symm
  subst e1
  obtain ⟨t, rfl⟩ := datin_str h2
  exact ⟨ws, t, rfl, h1⟩
theorem held_small {items : List (Nat × Nat)} {e : Nat} (T : Talk 0 items e) (p : Nat) : ∀ x ∈ (deskF (items.take p)).1, x ≤ 5 :=
  small_foldl (fun q hq => talk_v T q (List.mem_of_mem_take hq)) _ (fun _ h => nomatch h)
/-- the turn's ways -/
inductive Way (L : List (Addr × Obj)) (items : List (Nat × Nat)) (p k v : Nat) (us : List Value) (runs book : List Dat) : Prop
  | good {held : List Nat} : k < 6 → v ≤ 5 → runs = held.map runDat → (∀ x ∈ held, x ≤ 5) → deskF (items.take p) = (held, book) → Way L items p k v us runs book
  | six {held : List Nat} : k = 6 → v ≤ 5 → runs = held.map runDat → (∀ x ∈ held, x ≤ 5) → deskF (items.take p) = (held, book) → Way L items p k v us runs book
  | seven {held : List Nat} : k = 7 → v ≤ 5 → runs = held.map runDat → (∀ x ∈ held, x ≤ 5) → deskF (items.take p) = (held, book) → Way L items p k v us runs book
  | one13 {ws : List Value} {H : List Nat} {x : Nat} {t : Tok} : k = 13 → v = 0 → runs = H.map runDat ++ [.str (rep 34 x)] → us = ws ++ [.str (rep 34 x) t] → DatAll L ws (H.map runDat) → (∀ x ∈ H, x ≤ 5) → x ≤ 5 → deskF (items.take p) = (H ++ [x], book) → Way L items p k v us runs book
  | one14 {ws : List Value} {H : List Nat} {x : Nat} {t : Tok} : k = 14 → v = 0 → runs = H.map runDat ++ [.str (rep 34 x)] → us = ws ++ [.str (rep 34 x) t] → DatAll L ws (H.map runDat) → (∀ x ∈ H, x ≤ 5) → x ≤ 5 → deskF (items.take p) = (H ++ [x], book) → Way L items p k v us runs book
  | two {ws : List Value} {H : List Nat} {x y : Nat} {t u : Tok} : 8 ≤ k → k ≤ 12 → v = 0 → runs = (H.map runDat ++ [.str (rep 34 x)]) ++ [.str (rep 34 y)] → us = (ws ++ [.str (rep 34 x) t]) ++ [.str (rep 34 y) u] → DatAll L ws (H.map runDat) → (∀ x ∈ H, x ≤ 5) → x ≤ 5 → y ≤ 5 → deskF (items.take p) = ((H ++ [x]) ++ [y], book) → Way L items p k v us runs book
theorem way_of {items : List (Nat × Nat)} {e p k v : Nat} {L : List (Addr × Obj)} {us : List Value} {runs book : List Dat} (T : Talk 0 items e) (hn : items[p]? = some (k, v)) (W : WDesk items p runs book) (hD : DatAll L us runs) : Way L items p k v us runs book := by
  obtain ⟨rfl, rfl⟩ := W
  have hp : p < items.length := (List.getElem?_eq_some_iff.mp hn).1
  have T' := talk_at (n := p) (st := ([], [])) T rfl (by omega)
  have hd : items.drop p = (k, v) :: items.drop (p + 1) := by
    rw [List.drop_eq_getElem_cons hp]
    congr 1
    exact (List.getElem?_eq_some_iff.mp hn).2
  have hs := held_small T p
  rw [hd] at T'
  change Talk (deskF (items.take p)).1.length _ _ at T'
  have hpair : deskF (items.take p) = ((deskF (items.take p)).1, (deskF (items.take p)).2) := rfl
  generalize (deskF (items.take p)).1 = held at T' hD hs hpair ⊢
  generalize (deskF (items.take p)).2 = book at hpair ⊢
  generalize hh : held.length = n at T'
  cases T' with
  | held h1 h2 _ => exact .good h1 h2 rfl hs hpair
  | bad h1 h2 _ =>
    rcases h1 with h1 | h1
    · exact .six h1 h2 rfl hs hpair
    · exact .seven h1 h2 rfl hs hpair
  | one h1 _ =>
    obtain ⟨H, x, rfl⟩ := last_of (l := held) (by omega)
    obtain ⟨ws, t, e1, e2⟩ := all_snoc hD
    have hH : ∀ y ∈ H, y ≤ 5 := fun y hy => hs y (List.mem_append_left _ hy)
    have hx : x ≤ 5 := hs x (by simp)
    rcases h1 with h1 | h1
    · exact .one13 h1 rfl (by simp [runDat]) e1 e2 hH hx hpair
    · exact .one14 h1 rfl (by simp [runDat]) e1 e2 hH hx hpair
  | two h1 h2 _ =>
    obtain ⟨G, y, rfl⟩ := last_of (l := held) (by omega)
    obtain ⟨H, x, rfl⟩ := last_of (l := G) (by simp at hh; omega)
    obtain ⟨ws, t, e1, e2⟩ := all_snoc hD
    obtain ⟨ws', t', e3, e4⟩ := all_snoc e2
    subst e3
    have hH : ∀ y ∈ H, y ≤ 5 := fun y hy => hs y (List.mem_append_left _ (List.mem_append_left _ hy))
    exact .two h1 h2 rfl (by simp [runDat]) e1 e4 hH (hs x (by simp)) (hs y (by simp)) hpair
theorem pop_e (p : List Value) (y : Value) : kl_last (p ++ [y]).toArray.toList = some (p, y) := by
  simpa using kpa_last y p
/-- the runs' shape -/
theorem shape0 {H : List Nat} (h : ∀ x ∈ H, x ≤ 5) : ∀ d ∈ H.map runDat, ∃ x, d = Dat.str x ∧ x.length ≤ 5 := by
  intro d hd
  obtain ⟨n, hn, rfl⟩ := List.mem_map.mp hd
  exact ⟨_, rfl, by rw [rep_len]; exact h n hn⟩
theorem tot_c0 (w : World) (H : List Nat) (t : Tok) (hl : H.length ≤ 49) (h : ∀ y ∈ H, y ≤ 5) : Pure1 w 72 [.int (-totD (H.map runDat)) t] 5 (fun t => .bytes (lets H) t) := tot_c w H t _ rfl (by omega) h
section
variable {items : List (Nat × Nat)} {pre post : List Dat} {d : Dat} {k v : Nat} {held H : List Nat} {runs book : List Dat}
theorem desk_next {p : Nat} (hat : items[p]? = some (k, v)) (hd : deskF (items.take p) = (held, book)) : deskF (items.take (p + 1)) = (pops k v held, book ++ said k v book.length ++ tailD (pops k v held)) := by
  rw [List.take_add_one, hat]
  show deskF (items.take p ++ [(k, v)]) = _
  rw [deskF_snoc, hd]
  rfl
theorem pops_13 {x : Nat} : pops 13 0 (H ++ [x]) = H ++ [x / 2] := by simp [pops]
theorem pops_14 {x : Nat} : pops 14 0 (H ++ [x]) = H ++ [x % 2] := by simp [pops]
theorem pops_two {k x y : Nat} (h8 : 8 ≤ k) (h12 : k ≤ 12) : pops k 0 ((H ++ [x]) ++ [y]) = H ++ [two (k - 8) x y] := by
  unfold pops
  rw [if_neg (by omega), if_neg (by omega), if_neg (by omega), if_neg (by omega)]
  simp
end
theorem half_x : ∀ n : Nat, n < 6 → (Txt.slice (half n) (some (-1)) none == Str.ofString "x") = decide (n % 2 = 0) := by decide +kernel
theorem half_len (n : Nat) : (half n).length ≤ n / 2 + 1 := by
  unfold half Str.length
  simp only [List.size_toArray, List.length_append, List.length_replicate]
  split <;> simp
theorem PureT.use {w : World} {f : Addr} {vs : List Value} {need : Nat} {inp : List (Addr × Obj)} {R : Tok → List Value} (C : PureT w f vs need inp R)
    {mean : ExcName → Option Value} {mg mb : Str → Option Value} {dp un : Nat} {gd : Option (List Code)} {cn : Str} {cs : Scope} {a : Addr} {ccd : Value} {cl : List (Str × Addr)} {outer : List Env} {A₀ : Around} {base h₀ : Heap} {L : Addr} {m : Str → Option Value} {news : List (Addr × Obj)} {s : Shared} {Q E : Value → Shared → Prop}
    (B : Below A₀ base outer h₀) (F : Fr h₀ L s.heap m) (X : (Mine.hd.heap_1 w.params).In h₀) (N : News h₀ L s.heap (inp ++ news)) (T : Top Mine.hd.view_1 (looseW Mine.hd.view_1 [Str.ofString "EXACT_TOKEN_TYPES"]) mean mg mb h₀) (hk : cs.kind = .function)
    (hd : dp + need < recursionLimit) (hu : un + 8 * need < cLine)
    (ret : ∀ (D n : Nat) (t : Tok) (h' : Heap) (tk' : Nat), Fr h₀ L h' m → News h₀ L h' ((D, tupOf (R t) n) :: (inp ++ news)) → (∀ p ∈ inp ++ news, p.1 < D) → Q (.ref D) { s with heap := h', toks := tk' }) :
    wpAny (model PySem.Challenge.rw_wn0106_01.row.prog w) (ktrTop dp un gd cn cs L a ccd cl outer) (call (.ref f) vs) Q E s := C _ _ _ _ _ _ _ _ _ _ _ _ _ _ _ _ _ _ _ _ _ B F X N T hk hd hu ret
section
variable {prog : Program} {w : World} {A : Around} {E : Value → Shared → Prop} {s : Shared} {h₀ : Heap} {L D : Addr} {m : Str → Option Value} {news news' : List (Addr × Obj)} {us : List Value} {n : Nat} {x : Value} {Q : Value → Shared → Prop}
theorem app_e (F : Fr h₀ L s.heap m) (N : News h₀ L s.heap news) (U : Upd D (PySem.W.listOf us.toArray n) (PySem.W.listOf (us ++ [x]).toArray (n + 1)) news news') (hz : us.length ≤ 16777216)
    (h : ∀ h', Fr h₀ L h' m → News h₀ L h' news' → Q .none { s with heap := h' }) : wpAny (model prog w) A (call (.builtin "list.append") [.ref D, x]) Q E s := by
  have e : (us ++ [x]).toArray = us.toArray.push x := by rw [List.push_toArray]
  rw [e] at U
  exact append_K F N U h (by rw [PySem.sizeLine_eq, List.size_toArray]; exact hz)
end
theorem allLt_mem {d : Addr} {l : List (Addr × Obj)} (h : AllLt d l) : ∀ p ∈ l, p.1 < d := kst_ltOf h
section
variable {h₀ : Heap} {x : Str}
theorem kd_end1 {σ τ : Type} {Led : σ → List (Addr × Obj)} {cst : List (Addr × Obj)} {ps : σ → List (Str × Value)} {Facts : List (Addr × Obj) → σ → Prop} {stored : List Str} {m₀ : Str → Option Value} {P : τ → σ → Prop} {adr : List Addr} {pre : τ} (c : σ) {D : Addr} {o : Obj} {rest tl : List (Addr × Obj)} {L : Addr} {m' : Str → Option Value} {own : List (Addr × Obj)} {s₁ : Shared} {h' : Heap} {tk : Nat}
    (h0 : KdSep own tl adr) (F : Fr h₀ L h' m') (N : News h₀ L h' ((D, o) :: rest)) (hlt : AllLt D rest) (hn : ∀ p ∈ Led c ++ (cst ++ tl), p ∈ rest) (ho : ∀ p ∈ own, p ∈ rest) (hadr : (Led c ++ cst).map (·.1) = adr)
    (hk : ∀ p ∈ ps c, m' p.1 = some p.2) (hr : ∀ z, z ≠ x → (∀ p ∈ ps c, z ≠ p.1) → stored.contains z = false → m' z = m₀ z) (hf : Facts (cst ++ ([(D, o)] ++ tl)) c) (hp : P pre c) :
    InvEndG h₀ L (KdS Led cst ps Facts x stored m₀ P adr pre) own s₁ { s₁ with heap := h', toks := tk } := by
  have lt := allLt_mem hlt
  refine kd_end c [(D, o)] h0 F N ?_ (fun p hp => .tail _ (ho p hp)) hadr ?_ ?_ hk hr hf hp
  · intro p hp
    rcases List.mem_append.mp hp with hp | hp
    · exact .tail _ (hn p (List.mem_append.mpr (.inl hp)))
    · rcases List.mem_append.mp hp with hp | hp
      · exact .tail _ (hn p (List.mem_append.mpr (.inr (List.mem_append.mpr (.inl hp)))))
      · rcases List.mem_append.mp hp with hp | hp
        · rw [List.mem_singleton.mp hp]; exact .head _
        · exact .tail _ (hn p (List.mem_append.mpr (.inr (List.mem_append.mpr (.inr hp)))))
  · intro q hq b hb
    rw [List.mem_singleton.mp hq]
    rw [← hadr] at hb
    obtain ⟨p, hp, rfl⟩ := List.mem_map.mp hb
    refine Nat.ne_of_lt (lt p (hn p ?_))
    rcases List.mem_append.mp hp with hp | hp
    · exact List.mem_append.mpr (.inl hp)
    · exact List.mem_append.mpr (.inr (List.mem_append.mpr (.inl hp)))
  · intro q hq p hp
    rw [List.mem_singleton.mp hq]
    exact Nat.ne_of_lt (lt p (ho p hp))
end
theorem tok_bound (k : Nat) : twoTok k ≤ 28 ∧ twoTok k ≠ 24 := by
  unfold twoTok
  split <;> omega
theorem tok_bound' {k : Nat} (_ : 8 ≤ k) : twoTok (k - 8) ≤ 28 ∧ twoTok (k - 8) ≠ 24 := tok_bound (k - 8)
theorem beq_no {x y : Int} {T F : Prop} (h : x ≠ y) (f : F) : if (x == y) = true then T else F := ite_no (by simpa using h) f
theorem beq_yes {x y : Int} {T F : Prop} (h : x = y) (t : T) : if (x == y) = true then T else F := ite_yes (by simpa using h) t
end Mine
end
section
open PySem PySem.W PyProof.Rows PySem.Spec PySem.Calls
set_option maxRecDepth 100000
namespace Mine
/-- what a line's reply leaves amid a turn: the numbers held, the book -/
def MidG (items : List (Nat × Nat)) (p k v : Nat) (G : List Nat) (book' : List Dat) : Prop :=
  ∃ held book, deskF (items.take p) = (held, book) ∧ held.length ≤ p ∧ book.length ≤ 3 * p ∧ pops k v held = G ∧ book' = book ++ said k v book.length ∧ (∀ x ∈ G, x ≤ 5) ∧ G.length ≤ held.length + 1 ∧ (said k v book.length).length ≤ 1
section
variable {items : List (Nat × Nat)} {p k v : Nat} {held H : List Nat} {book : List Dat}
theorem mg_good (h6 : k < 6) (hv : v ≤ 5) (hs : ∀ x ∈ held, x ≤ 5) (hd : deskF (items.take p) = (held, book)) (hl : held.length ≤ p) (hb : book.length ≤ 3 * p) : MidG items p k v (held ++ [v]) (book ++ [Dat.int (book.length : Int)]) := by
  have hp : pops k v held = held ++ [v] := by simp [pops, h6]
  have hsd : said k v book.length = [Dat.int (book.length : Int)] := by simp [said, h6]
  exact ⟨held, book, hd, hl, hb, hp, by rw [hsd], hp ▸ pops_small hv hs, by simp, by rw [hsd]; exact Nat.le_refl _⟩
theorem mg_six (hs : ∀ x ∈ held, x ≤ 5) (hd : deskF (items.take p) = (held, book)) (hl : held.length ≤ p) (hb : book.length ≤ 3 * p) : MidG items p 6 v held (book ++ [Dat.str (Str.ofString "proto " ++ lineOf 6 v)]) :=
  ⟨held, book, hd, hl, hb, by simp [pops], by simp [said], hs, Nat.le_succ _, by simp [said]⟩
theorem mg_seven (hs : ∀ x ∈ held, x ≤ 5) (hd : deskF (items.take p) = (held, book)) (hl : held.length ≤ p) (hb : book.length ≤ 3 * p) : MidG items p 7 v held (book ++ [Dat.str (Str.ofString "reply " ++ lineOf 7 v)]) :=
  ⟨held, book, hd, hl, hb, by simp [pops], by simp [said], hs, Nat.le_succ _, by simp [said]⟩
theorem mg_snoc {z : Nat} (hp : pops k v held = H ++ [z]) (h8 : 8 ≤ k) (hH : H.length ≤ held.length) (h5 : ∀ x ∈ H, x ≤ 5) (hz : z ≤ 5) (hd : deskF (items.take p) = (held, book)) (hl : held.length ≤ p) (hb : book.length ≤ 3 * p) : MidG items p k v (H ++ [z]) book := by
  have hsd : said k v book.length = [] := by
    unfold said
    rw [if_neg (by omega), if_neg (by omega), if_neg (by omega)]
  refine ⟨held, book, hd, hl, hb, hp, by rw [hsd, List.append_nil], fun x hx => ?_, by simpa using hH, by rw [hsd]; exact Nat.zero_le _⟩
  rcases List.mem_append.mp hx with hx | hx
  · exact h5 x hx
  · rw [List.mem_singleton.mp hx]; exact hz
theorem mg_13 {x : Nat} (h5 : ∀ x ∈ H, x ≤ 5) (hx : x ≤ 5) (hd : deskF (items.take p) = (H ++ [x], book)) (hl : (H ++ [x]).length ≤ p) (hb : book.length ≤ 3 * p) : MidG items p 13 0 (H ++ [x / 2]) book :=
  mg_snoc pops_13 (by omega) (by simp) h5 (by omega) hd hl hb
theorem mg_14 {x : Nat} (h5 : ∀ x ∈ H, x ≤ 5) (hd : deskF (items.take p) = (H ++ [x], book)) (hl : (H ++ [x]).length ≤ p) (hb : book.length ≤ 3 * p) : MidG items p 14 0 (H ++ [x % 2]) book :=
  mg_snoc pops_14 (by omega) (by simp) h5 (by omega) hd hl hb
theorem mg_two {x y : Nat} (h8 : 8 ≤ k) (h12 : k ≤ 12) (h5 : ∀ x ∈ H, x ≤ 5) (hx : x ≤ 5) (hy : y ≤ 5) (hd : deskF (items.take p) = ((H ++ [x]) ++ [y], book)) (hl : ((H ++ [x]) ++ [y]).length ≤ p) (hb : book.length ≤ 3 * p) : MidG items p k 0 (H ++ [two (k - 8) x y]) book :=
  mg_snoc (pops_two h8 h12) h8 (by simp) h5 (two_le hx hy) hd hl hb
/-- what the rest of a turn makes of it -/
theorem mg_out {G : List Nat} {book' : List Dat} (hat : items[p]? = some (k, v)) (h : MidG items p k v G book') : (∀ x ∈ G, x ≤ 5) ∧ G.length ≤ p + 1 ∧ book'.length ≤ 3 * p + 1 ∧ deskF (items.take (p + 1)) = (G, (book' ++ [Dat.list (G.map runDat)]) ++ [Dat.bytes (lets G)]) := by
  obtain ⟨held, book, hd, hl, hb, hr, hk, hG, hn, hs⟩ := h
  refine ⟨hG, by omega, by rw [hk, List.length_append]; omega, ?_⟩
  rw [desk_next hat hd, hr, hk]
  simp [tailD]
end
end Mine
end
section
open PySem PySem.W PyProof.Rows PySem.Spec PySem.Calls
set_option maxRecDepth 100000
namespace Mine
section
variable {M : Model} {A : Around} {E : Value → Shared → Prop}
variable {nm q : Str} {C N : Addr} {bs bm : List Value} {hdct : Bool} {sn : List Str} {sub : List Value} {ab : Bool} {col : Option Bool} {dd : Option Addr} {k0 k1 k2 k3 k5 : Option Value} {newId : String}
variable {nm' q' : Str} {C' N' : Addr} {bs' bm' : List Value} {hdct' : Bool} {sn' : List Str} {sub' : List Value} {ab' : Bool} {col' : Option Bool} {dd' : Option Addr} {k0' k1' k2' k3' k5' : Option Value} {newId' : String}
/-- an exception of the text's own class C' does not match the text's own class C -/
theorem excM_no {h : Heap} {g : Array GenState} {d : Drawn} {t : Nat} {os : OsState} {e : Addr} {oe : Obj} {Q : Bool → Shared → Prop}
    (hC : h.get? C = some (excClassObj nm q C N bs bm hdct sn sub ab col dd k0 k1 k2 k3 k5 newId))
    (hC' : h.get? C' = some (excClassObj nm' q' C' N' bs' bm' hdct' sn' sub' ab' col' dd' k0' k1' k2' k3' k5' newId'))
    (he : h.get? e = some oe) (hcls : oe.cls = .ref C') (hbase : bm.contains (.type "BaseException") = true) (hno : (Value.ref C' :: bm').contains (.ref C) = false)
    (hq : Q false ⟨h, g, d, t, os⟩) : wpAny M A (excMatches (.ref e) (.ref C)) Q E ⟨h, g, d, t, os⟩ := by
  have hcB : (Value.ref C :: bm).contains (.type "BaseException") = true := by rw [List.contains_cons, hbase, Bool.or_true]
  have f := tc_notTuple
  unfold excMatches
  repeat (first | (with_reducible refine wpAny_loadPart_at he ?_; rw [hcls]) | with_reducible refine wpAny_loadPart_at hC ?_ | (with_reducible refine wpAny_isSubtype_exc hC ?_; rw [hcB]) | (with_reducible refine wpAny_isSubtype_exc hC' ?_; rw [hno]) | wp_step)
  exact hq
end
/-- the text's own class C is no subclass of C' -/
noncomputable def apartIn (K : Frag) (C C' : Addr) : Bool := match K.lookup C with
  | some ⟨_, _, .cls cd, _⟩ => !(cd.mro.contains (.ref C'))
  | _ => false
theorem apart_of {K : Frag} {h : Heap} {C C' N : Addr} {nm q : Str} {bs bm : List Value} {hdct : Bool} {sn : List Str} {sub : List Value} {ab : Bool} {col : Option Bool} {dd : Option Addr} {k0 k1 k2 k3 k5 : Option Value} {newId : String}
    (X : K.In h) (hC : h.get? C = some (excClassObj nm q C N bs bm hdct sn sub ab col dd k0 k1 k2 k3 k5 newId)) (e : apartIn K C C' = true) : (Value.ref C :: bm).contains (.ref C') = false := by
  unfold apartIn at e
  split at e
  · rename_i c d cd sl ho
    have := X _ _ ho
    rw [hC] at this
    cases this
    rwa [Bool.not_eq_true'] at e
  · cases e
section
variable {prog : Program} {w : World} {A₀ : Around} {E : Value → Shared → Prop} {s s' : Shared} {h₀ h : Heap} {outer : List Env} {L a e t : Addr} {m : Str → Option Value} {name : Str} {scope : Scope} {cd : Value}
  {vs : List Value} {n : Str} {b₀ : Stmt} {suite : List Stmt} {pos np : Pos} {rest : List ExceptHandler} {Q : Flow → Shared → Prop} {news : List (Addr × Obj)} {KF : Frag} {C C1 : Addr} {bmB : List Value} {newId : String}
  {p : Program} {loose : List Str} {mg mb : Str → Option Value} {x : Str}
/-- all objects but the frame b stand up to their slots -/
def SlotsBut (L : Addr) (h h' : Heap) : Prop := ∀ b o, b ≠ L → h.get? b = some o → (∀ vs, o.data ≠ .fields vs) → ∃ sl, h'.get? b = some { o with slots := sl }
theorem raised_there {l : List Env} (R : RaisedK h₀ l e (.ref C) t vs news h) : ∃ ob, h.get? e = some ob ∧ ob.cls = .ref C := by
  obtain ⟨⟨_, _, _, fl, _⟩, _⟩ := R
  exact fl.there
theorem raised_led {env : Env} {l : List Env} (hf : env.frame = some L) (R : RaisedK h₀ (env :: l) e (.ref C) t vs news h) : News h₀ L h news := by
  obtain ⟨⟨B, _, inB, fl, _⟩, _⟩ := R
  obtain ⟨_, ⟨L', _, q1, q2, _⟩, _⟩ := fl.2.2.1
  obtain rfl : L = L' := Option.some.inj (hf.symm.trans q1)
  intro z hz
  obtain ⟨a1, a2⟩ := inB z hz
  exact ⟨fl.1 _ _ a1, (fun w => by rw [w, q2] at a1; cases a1), a2⟩
theorem land (st₀ : A₀.frames = some outer) (F : Fr h₀ L h m) (hsm : h.UpToSlots s'.heap) (R : RaisedK h₀ (envOf name scope L a cd :: outer) e (.ref C) t vs news s'.heap) {G : Shared → Prop}
    (k : ∀ h', Fr h₀ L h' m → RaisedK h₀ (envOf name scope L a cd :: outer) e (.ref C) t vs news h' → s'.heap.UpToSlots h' → G { s' with heap := h' }) :
    wpAny (model prog w) (A₀.deeper (envOf name scope L a cd)) (noteFrame (.ref e) (envOf name scope L a cd))
      (fun _ s₂ => wpAny (model prog w) (A₀.deeper (envOf name scope L a cd)) (setFlight (.ref e) none) (fun _ s₃ => G s₃) E s₂) E s' := by
  obtain ⟨⟨B, st, inB, fl, nt⟩, tu⟩ := R
  refine wpAny_looks_onW (Around.frames_deeper st₀) rfl fl fun g1 he1 u1 => ?_
  refine wpAny_landsW he1 fun g2 fl2 u2 => ?_
  exact k g2 (F.of_stays (flyingW_base st fl2).1 (hsm.trans (u1.trans u2))) ⟨⟨B, st, inB, fl2, nt⟩, tu.of_slots (u1.trans u2)⟩ (u1.trans u2)
/-- a handler for another class of the text's own passes the exception on -/
theorem skip (F : Fr h₀ L s.heap m) (R : RaisedK h₀ (envOf name scope L a cd :: outer) e (.ref C) t vs news s.heap) (X : KF.In h₀) (T : TopRead p loose mg mb h₀) {o : Option Str} {y : Str} {bmC : List Value} {newC : String}
    (ex : nsIn KF mainGlobals x = some (some (.ref C1))) (q : excIn KF C1 bmB newId = true) (hbase : bmB.contains (.type "BaseException") = true)
    (ey : nsIn KF mainGlobals y = some (some (.ref C))) (qC : excIn KF C bmC newC = true) (ha : apartIn KF C C1 = true)
    (k : wpAny (model prog w) (A₀.deeper (envOf name scope L a cd)) (handleBy (.ref e) (envOf name scope L a cd) rest) Q E s)
    (hk : scope.kind = .function := by rfl) (hx : (envOf name scope L a cd).kindOf x = some .globalImplicit := by rfl) (hd : (x == ("__debug__" : Str)) = false := by decide) :
    wpAny (model prog w) (A₀.deeper (envOf name scope L a cd)) (handleBy (.ref e) (envOf name scope L a cd) (.ExceptHandler (some (.Name x np)) o (b₀ :: suite) pos :: rest)) Q E s := by
  obtain ⟨ob, hob, hoc⟩ := raised_there R
  have hks := F.keep
  obtain ⟨_, _, _, _, _, _, _, _, _, _, _, _, _, _, _, _, _, o1, _, _, tl⟩ := ((own_of_in X T ex q).keeps hks).obj
  obtain ⟨_, _, _, _, _, _, _, _, _, _, _, _, _, _, _, _, _, o2, _⟩ := ((own_of_in X T ey qC).keeps hks).obj
  exact wpAny_handleBy_cons (codeAny_handlers_test (name_K F X T ex (excM_no o1 o2 hob hoc (tl.hasType hbase) (apart_of (X.keeps hks) o2 ha) k) hk hx hd)) (fun q => by cases q)
/-- a handler for the exception's own class takes it, and names it -/
theorem take (F : Fr h₀ L s.heap m) (R : RaisedK h₀ (envOf name scope L a cd :: outer) e (.ref C) t vs news s.heap) (X : KF.In h₀) (T : TopRead p loose mg mb h₀)
    (ex : nsIn KF mainGlobals x = some (some (.ref C))) (q : excIn KF C bmB newId = true) (hbase : bmB.contains (.type "BaseException") = true)
    (k : ∀ h' fresh tk, Fr h₀ L h' (fun y => if y = n then some (.ref e) else m y) → News h₀ L h' fresh → Got fresh e t (.ref C) vs → News h₀ L h' news → (∀ p ∈ fresh, ∀ es k, p.2.data ≠ .dict es k) → SlotsBut L s.heap h' →
      wpAny (model prog w) ((A₀.deeper (envOf name scope L a cd)).mark (some (.ref e))) (execs (b₀ :: suite) (envOf name scope L a cd))
        (fun f s₄ => wpAny (model prog w) (A₀.deeper (envOf name scope L a cd)) (do bindName (envOf name scope L a cd) n .none; unbindBehindTheSuite (envOf name scope L a cd) n pos) (fun _ s₅ => Q f s₅) E s₄)
        (AsSuiteRaised (model prog w) ((A₀.deeper (envOf name scope L a cd)).mark (some (.ref e))) (envOf name scope L a cd) n pos (notedBy (model prog w) ((A₀.deeper (envOf name scope L a cd)).mark (some (.ref e))) (envOf name scope L a cd) (cameBackBy (model prog w) (A₀.deeper (envOf name scope L a cd)) (envOf name scope L a cd) E)))
        { s with heap := h', toks := tk })
    (hk : scope.kind = .function := by rfl) (hn : (envOf name scope L a cd).kindOf n = some .local := by rfl) (hx : (envOf name scope L a cd).kindOf x = some .globalImplicit := by rfl) (hd : (x == ("__debug__" : Str)) = false := by decide) :
    wpAny (model prog w) (A₀.deeper (envOf name scope L a cd)) (handleBy (.ref e) (envOf name scope L a cd) (.ExceptHandler (some (.Name x np)) (some n) (b₀ :: suite) pos :: rest)) Q E s := by
  obtain ⟨ob, hob, hoc⟩ := raised_there R
  obtain ⟨_, _, _, _, _, _, _, _, _, _, _, _, _, _, _, _, _, o1, _, _, tl⟩ := ((own_of_in X T ex q).keeps F.keep).obj
  refine wpAny_handleBy_cons (codeAny_handlers_test (name_K F X T ex (wpAny_excMatches_sub_self o1 hob hoc (tl.hasType hbase) (codeAny_handlers_suite_as ?_)) hk hx hd)) (fun q => by cases q)
  obtain ⟨⟨B, st, inB, fl, nt⟩, tu⟩ := R
  refine lands_againW fl fun g3 fl3 u3 => ?_
  have F3 := F.of_stays (flyingW_base st fl3).1 u3
  obtain ⟨oe, ws, he1, he2, he3, he4⟩ := fl3.first
  obtain ⟨ot, nt', ht1, ht2, ht3⟩ := tu.of_slots u3
  have fresh : News h₀ L g3 [(e, oe), (t, ot)] := (News.nil.more F3 ht1 (fun _ _ z => by rw [ht3] at z; cases z) (fresh_of_stays st nt)).more F3 he1 (fun _ _ z => by rw [he3] at z; cases z) (flyingW_base st fl3).2.1
  have old : News h₀ L g3 news := raised_led rfl ⟨⟨B, st, inB, fl3, nt⟩, tu.of_slots u3⟩
  refine wpAny_storeName_local hn F3.ns (fun g4 hn4 sb => ?_) (by show (scope.kind == .class || (scope.kind == .module && _)) = false; rw [hk]; rfl)
  have F4 := F3.set hn4 sb
  have N4 : News h₀ L g4 ([(e, oe), (t, ot)] ++ news) := News.set (fun z hz => (List.mem_append.mp hz).elim (fresh z) (old z)) sb
  refine k g4 [(e, oe), (t, ot)] _ F4 (fun z hz => N4 z (List.mem_append_left _ hz)) ⟨oe, ot, ws, nt', .head _, .tail _ (.head _), he2, he3, he4, ht2, ht3⟩ (fun z hz => N4 z (List.mem_append_right _ hz)) ?_ ?_
  · intro z hz es k q
    rcases List.mem_cons.mp hz with rfl | hz
    · rw [he3] at q; cases q
    · rcases List.mem_cons.mp hz with rfl | hz
      · rw [ht3] at q; cases q
      · nomatch hz
  · exact fun b o hb hq hnf => by
      obtain ⟨sl, q⟩ := u3 b o hq hnf
      exact ⟨sl, (sb.2 b hb).trans q⟩
end
section
open Builtin Builtin.Str Builtin.BaseException Builtin.Exceptions
variable {prog : Program} {w : World} {A : Around} {E : Value → Shared → Prop} {s : Shared} {K : Frag} {h₀ : Heap} {L e t C : Addr} {news : List (Addr × Obj)} {m : Str} {u : Tok}
/-- an exception of the text's own class C, made of one text -/
def OneText (h : Heap) (e C : Addr) (m : Str) (u : Tok) : Prop := ∃ oe ws t ot nt, h.get? e = some oe ∧ oe.cls = .ref C ∧ oe.data = .fields ws ∧ ws[0]? = some (.ref t) ∧ h.get? t = some ot ∧ ot.cls = .type "tuple" ∧ ot.data = .seq #[.str m u] nt
theorem oneText_of {h : Heap} (N : News h₀ L h news) (G : Got news e t (.ref C) [.str m u]) : OneText h e C m u :=
  let ⟨oe, ot, ws, nt, a1, a2, a3, a4, a5, a6, a7⟩ := G
  ⟨oe, ws, t, ot, nt, (N _ a1).1, a3, a4, a5, (N _ a2).1, a6, a7⟩
theorem own_bexcArgs {M : Model} {Q : Value × List Value → Shared → Prop} (W : OneText s.heap e C m u) (hq : ∀ t, Q (.ref t, [.str m u]) s) : wpAny M A (bexcArgs (.ref e)) Q E s := by
  obtain ⟨oe, ws, t, ot, nt, a1, a2, a3, a4, a5, a6, a7⟩ := W
  unfold bexcArgs
  exact wpAny_bind (wpAny_field a1 a3 a4 (wpAny_bind (wpAny_seqItems a5 a7 (wpAny_pure (hq t)))))
theorem own_strOf (hu : A.units < cLine) {Q : Value → Shared → Prop} (X : K.In s.heap) (W : OneText s.heap e C m u) (hs : findIn K (.ref C) "__str__" = some (some (.builtin "BaseException.__str__")))
    (hm : mroIn K C (.type "BaseException") = some true) (hq : Q (.str m u) s) : wpAny (model prog w) A (PySem.Builtin.Str.strOf (.ref e)) Q E s := by
  have FX := PySem.F.excStr_Exception
  have ty : ∀ M, Looks M s.heap (typeOf (.ref e)) (.ref C) := fun M => by
    obtain ⟨oe, ws, t, ot, nt, a1, a2, _⟩ := W
    exact (Looks.ld a1).andThen (by rw [a2]; exact .now)
  have called : wpAny (model prog w) A (call (.builtin "BaseException.__str__") [.ref e]) (fun r s₁ => r = .str m u ∧ Q r s₁) E s := by
    refine wpAny_call (codeAny_call_builtin FX.str.plain F.entry_bexc_str (check_slot (i := "BaseException.__str__") (owner := "BaseException") (n := "__str__") (by decide +kernel) (by decide +kernel) ((ty _).andThen (looks_mroIn X hm)) (F.args_bexc_str _) ?_))
    unfold Builtin.«BaseException.__str__»
    repeat (first | with_reducible refine own_bexcArgs W fun t' => ?_ | wp_step)
    exact ⟨rfl, hq⟩
  unfold PySem.Builtin.Str.strOf
  refine wpAny_bind (m := cRoomFor _ _) (wpAny_cRoomFor hu ?_)
  refine wpAny_bind (m := callSpecial? (.ref e) (Str.ofString "__str__")) ?_
  refine wpAny_bind (wpAny_bind ((ty _).here ((looks_findIn X hs).here (wpAny_holding (wpAny_bind ((Looks.of_pure (FX.str.bind _)).here (wpAny_bind (wpAny_mono called (fun v s₁ z => ?_) fun _ _ z => z))))))))
  obtain ⟨rfl, hq'⟩ := z
  repeat wp_step
  exact hq'
theorem own_str (hu : A.units + 2 < cLine) {Q : Value → Shared → Prop} (X : K.In s.heap) (N : News h₀ L s.heap news) (G : Got news e t (.ref C) [.str m u]) (hs : findIn K (.ref C) "__str__" = some (some (.builtin "BaseException.__str__")))
    (hm : mroIn K C (.type "BaseException") = some true) (hq : Q (.str m u) s) : wpAny (model prog w) A (call (.type "str") [.ref e]) Q E s :=
  callType_new F.called_str (by decide) (F.typeCall_str_1 _) (F.newCall_str_1 _) (fun obj => F.args_object_init_2 obj _) F.entry_str_new
    (meets_str_new (S := fun A' R s' => A'.units + 1 < cLine ∧ K.In s'.heap ∧ OneText s'.heap e C m u ∧ R (.ok (.ret (.str m u))) s')
      fun _ _ A' _ _ z => own_strOf (A := A'.in1) z.1 z.2.1 z.2.2.1 hs hm z.2.2.2)
    ⟨(show A.units + 1 + 1 < cLine from hu), X, oneText_of N G, typeIs_str _ _ _, hq⟩
end
theorem reply_apart (w : World) : apartIn (Mine.hd.heap_1 w.params) 37 49 = true := by kernel_rfl
end Mine
end
section
open PySem PySem.W PyProof.Rows PySem.Spec PySem.Calls
set_option maxRecDepth 100000
namespace Mine
section
variable {h₀ g h h' : Heap} {L L' : Addr} {m m' m'' : Str → Option Value} {news : List (Addr × Obj)}
theorem fr_out (FG : Fr h₀ L g m) (F : Fr g L' h m') : Fr h₀ L h m := ⟨FG.ns.keeps F.keep, fun b o e => F.keep b o (FG.keep b o e), FG.above⟩
theorem fr_in (FG : Fr h₀ L g m) (F : Fr g L' h m') : Fr h₀ L' h m' := ⟨F.ns, fun b o e => F.keep b o (FG.keep b o e), Nat.le_trans FG.above (Nat.le_trans (Nat.le_of_lt FG.ns.lt) F.above)⟩
theorem ground_has (FG : Fr h₀ L g m) : ∃ o es k, g.get? L = some o ∧ o.data = .dict es k := let ⟨o, es, k, a, b, _⟩ := FG.ns; ⟨o, es, k, a, b⟩
theorem none_in (FG : Fr h₀ L g m) {b : Addr} (e : g.get? b = none) : h₀.get? b = none ∧ b ≠ L := by
  refine ⟨?_, fun q => ?_⟩
  · cases q : h₀.get? b with
    | none => rfl
    | some o => rw [FG.keep b o q] at e; cases e
  · obtain ⟨o, _, _, a, _⟩ := ground_has FG
    rw [q, a] at e
    cases e
theorem news_out (FG : Fr h₀ L g m) (N : News g L' h news) : News h₀ L h news := fun p hp =>
  ⟨(N p hp).1, (none_in FG (N p hp).2.2).2, (none_in FG (N p hp).2.2).1⟩
theorem news_in (FG : Fr h₀ L g m) (N : News g L' h news) : News h₀ L' h news := fun p hp => ⟨(N p hp).1, (N p hp).2.1, (none_in FG (N p hp).2.2).1⟩
/-- the least ground with the caller's frame as it lies now -/
theorem re_ground (FG : Fr h₀ L g m) (hL : g.objs.size ≤ L') (hn : h'.Ns L' m'') (keep : ∀ b o, h₀.get? b = some o → h'.get? b = some o) (up : ∀ o, g.get? L = some o → ∃ sl, h'.get? L = some { o with slots := sl }) :
    ∃ g₂, Fr h₀ L g₂ m ∧ Fr g₂ L' h' m'' ∧ ∀ b, h₀.get? b = none → b ≠ L → g₂.get? b = none := by
  obtain ⟨oL, es, ep, q1, q2, q3, q4⟩ := FG.ns
  obtain ⟨sl, q5⟩ := up oL q1
  have hout : ∀ b, b ∈ (List.range g.objs.size).filter (fun b => (h₀.get? b).isNone && b != L) ↔ b < g.objs.size ∧ h₀.get? b = none ∧ b ≠ L := by
    intro b
    rw [List.mem_filter, List.mem_range, Bool.and_eq_true, Option.isNone_iff_eq_none, bne_iff_ne]
  generalize (List.range g.objs.size).filter (fun b => (h₀.get? b).isNone && b != L) = as at hout
  have i1 : (hideAll g as).get? L = some oL := hideAll_get as q1 fun z => ((hout L).mp z).2.2 rfl
  have i2 : (ktsHeap h' [L] (hideAll g as)).get? L = some { oL with slots := sl } := ktsHeap_some [L] (.head _) i1 q5
  have i3 : ∀ b, b ≠ L → (ktsHeap h' [L] (hideAll g as)).get? b = (hideAll g as).get? b := fun b hb => ktsHeap_ne [L] fun z => hb (List.mem_singleton.mp z)
  have low : ∀ b o, h₀.get? b = some o → b ≠ L := fun b o e z => absurd (Nat.lt_of_lt_of_le (Heap.lt_size e) FG.above) (by rw [z]; exact Nat.lt_irrefl _)
  refine ⟨ktsHeap h' [L] (hideAll g as), ⟨⟨_, es, ep, i2, q2, q3, q4⟩, fun b o e => ?_, FG.above⟩, ⟨hn, fun b o e => ?_, ?_⟩, fun b e hb => ?_⟩
  · rw [i3 b (low b o e)]
    exact hideAll_get as (FG.keep b o e) fun z => by have := ((hout b).mp z).2.1; rw [e] at this; cases this
  · by_cases hb : b = L
    · subst hb
      rw [i2] at e
      cases e
      exact q5
    · rw [i3 b hb] at e
      have e1 := of_hideAll as e
      cases z : h₀.get? b with
      | some o' =>
        have := FG.keep b o' z
        rw [e1] at this
        cases this
        exact keep b o z
      | none =>
        have := hideAll_none as (h := g) ((hout b).mpr ⟨Heap.lt_size e1, z, hb⟩)
        rw [e] at this
        cases this
  · rw [ktsHeap_size, hideAll_size]
    exact hL
  · rw [i3 b hb]
    cases z : (hideAll g as).get? b with
    | none => rfl
    | some o =>
      have := hideAll_none as (h := g) ((hout b).mpr ⟨Heap.lt_size (of_hideAll as z), e, hb⟩)
      rw [z] at this
      cases this
/-- behind a caught exception: a new ground -/
theorem regrd {g8 h₁ : Heap} {fresh : List (Addr × Obj)} (FG : Fr h₀ L g m) (F : Fr g L' h m') (N : News g L' h₁ news) (U : h.UpToSlots g8) (F' : Fr h₀ L' h' m'') (N' : News h₀ L' h' news) (N2 : News h₀ L' h' fresh)
    (hd : ∀ p ∈ fresh, ∀ es k, p.2.data ≠ .dict es k) (S : SlotsBut L' g8 h') : ∃ g₂, Fr h₀ L g₂ m ∧ Fr g₂ L' h' m'' ∧ News g₂ L' h' fresh ∧ News g₂ L' h' news := by
  obtain ⟨oL, es, ep, q1, q2⟩ := ground_has FG
  have up : ∀ o, g.get? L = some o → ∃ sl, h'.get? L = some { o with slots := sl } := fun o e => by
    rw [q1] at e
    cases e
    have nf : ∀ vs, oL.data ≠ .fields vs := fun vs z => by rw [q2] at z; cases z
    obtain ⟨sl, e2⟩ := U L oL (F.keep L oL q1) nf
    have hne : L ≠ L' := Nat.ne_of_lt (Nat.lt_of_lt_of_le (Heap.lt_size q1) F.above)
    obtain ⟨sl2, e3⟩ := S L _ hne e2 nf
    exact ⟨sl2, e3⟩
  obtain ⟨g₂, a1, a2, a3⟩ := re_ground FG F.above F'.ns F'.keep up
  refine ⟨g₂, a1, a2, fun p hp => ⟨(N2 p hp).1, (N2 p hp).2.1, a3 _ (N2 p hp).2.2 fun z => ?_⟩, fun p hp => ⟨(N' p hp).1, (N' p hp).2.1, a3 _ (N' p hp).2.2 (none_in FG (N p hp).2.2).2⟩⟩
  obtain ⟨sl, e⟩ := up oL q1
  have := (N2 p hp).1
  rw [z, e] at this
  have e2 := Option.some.inj this
  exact hd p hp es ep (by rw [← e2]; exact q2)
/-- the frames below, over the new ground -/
theorem below_on {A₀ : Around} {base : Heap} {outer : List Env} {dp un : Nat} {gd : Option (List Code)} {cn : Str} {cs : Scope} {a : Addr} {ccd : Value} {cl : List (Str × Addr)}
    (B : Below A₀ base outer h₀) (FG : Fr h₀ L g m) (hk : cs.kind = .function) : Below (ktrTop dp un gd cn cs L a ccd cl outer) base (envX cn cs L a ccd cl :: outer) g :=
  let B' := pushX (env := envX cn cs L a ccd cl) B FG rfl hk
  ⟨rfl, B'.stays, B'.frames⟩
end
section
variable {prog : Program} {w : World} {A : Around} {E : Value → Shared → Prop} {s : Shared} {env : Env} {h₀ : Heap} {x : Str} {body : List Stmt} {Q : Flow → Shared → Prop}
/-- a turn's end, the ground moved -/
def MvEnd (h₀ : Heap) (L : Addr) (m : Str → Option Value) (L' : Addr) (J : (Str → Option Value) → List (Addr × Obj) → Prop) (own : List (Addr × Obj)) (s₁ : Shared) (Q : Flow → Shared → Prop) (f : Flow) (s₂ : Shared) : Prop :=
  match f with
  | .ret v => Q (.ret v) s₂
  | .brk => Q .next s₂
  | _ => ∃ g, Fr h₀ L g m ∧ InvEndG g L' J own s₁ s₂
/-- a loop over a list of the ledger, each turn of which may move the ground -/
theorem mv_iter {L l : Addr} {m m₀ : Str → Option Value} {g : Heap} {vs : List Value} {nn : Nat} {news : List (Addr × Obj)} {px : Pos} (J : Nat → (Str → Option Value) → List (Addr × Obj) → Prop)
    (hx : env.kindOf x = some .local) (hp : (env.scope.kind == .class || (env.scope.kind == .module && env.locals != env.globals)) = false)
    (hh : A.handled = none) (FG : Fr h₀ L g m) (hl : (l, listOf vs.toArray nn) ∈ news) (F : Fr g env.locals s.heap m₀) (N : News g env.locals s.heap news) (hj : J 0 m₀ news)
    (turn : ∀ g₁ i v m₁ nx h tk own, Fr h₀ L g₁ m → vs[i]? = some v → OwnOff own (nx.map (·.1)) → (l, listOf vs.toArray nn) ∈ nx → J i m₁ nx → Fr g₁ env.locals h (fun y => if y = x then some v else m₁ y) → News g₁ env.locals h (nx ++ own) →
      wpAny (model prog w) A (execs body env) (MvEnd h₀ L m env.locals (fun m' nx => (l, listOf vs.toArray nn) ∈ nx ∧ J (i + 1) m' nx) own { s with heap := h, toks := tk } Q) E { s with heap := h, toks := tk })
    (done : ∀ g₁ m₁ nx h tk, Fr h₀ L g₁ m → J vs.length m₁ nx → Fr g₁ env.locals h m₁ → News g₁ env.locals h nx → Q .next { s with heap := h, toks := tk })
    (hE : PassesOwn (model prog w) A env E := by passes_own) :
    wpAny (model prog w) A (pyIter (.ref l)) (fun it s₂ => codeAny (model prog w) A (.forLoop (.Name x px) it body [] env) (fun r s' => match r with | .ok f => Q f s' | .error e => cameBackBy (model prog w) A env E e s') s₂) E s := by
  have hol : s.heap.get? l = some (listOf vs.toArray nn) := (N _ hl).1
  refine wpAny_pyIter_list ⟨_, hol, rfl, nn, rfl⟩ ?_
  have W := Walks.list (prog := prog) (w := w) hh s.heap.objs.size l (Nat.ne_of_lt (Heap.lt_size hol)) vs.toArray
  have hit : (s.heap.push { cls := .type "list_iterator", data := .fields #[.ref l, .int 0 0] }).IsListIter s.heap.objs.size l 0 := ⟨_, Heap.get?_push_size _ rfl, rfl, rfl⟩
  have F1 := F.push (o := { cls := .type "list_iterator", data := .fields #[.ref l, .int 0 0] })
  have N1 : News g env.locals (s.heap.push { cls := .type "list_iterator", data := .fields #[.ref l, .int 0 0] }) news := fun p hp => ⟨Heap.get?_push_of_some _ (N p hp).1, (N p hp).2⟩
  have hIL : s.heap.objs.size ≠ env.locals := fun z => absurd F.ns.lt (by rw [← z]; exact Nat.lt_irrefl _)
  have hIg : g.get? s.heap.objs.size = none := next_is_new F
  have hIn : ∀ p ∈ news, p.1 ≠ s.heap.objs.size := fun p hp => Nat.ne_of_lt (Heap.lt_size (N p hp).1)
  generalize s.heap.push { cls := .type "list_iterator", data := .fields #[.ref l, .int 0 0] } = hs at hit F1 N1
  generalize s.heap.objs.size = I at W hIL hIg hIn hit
  have hlen : vs.toArray.size = vs.length := by simp
  rw [hlen] at W
  refine codeAny_forLoop
    (fun k s' => ∃ g₁ h' tk m' nx i, s' = { s with heap := h', toks := tk } ∧ Fr h₀ L g₁ m ∧ Fr g₁ env.locals h' m' ∧ News g₁ env.locals h' nx ∧ h'.IsListIter I l i ∧ g₁.get? I = none ∧ (∀ p ∈ nx, p.1 ≠ I) ∧ (l, listOf vs.toArray nn) ∈ nx ∧ J i m' nx ∧ i ≤ vs.length ∧ k = vs.length + 1 - i) ?_ (vs.length + 1)
    ⟨g, hs, s.toks, m₀, news, 0, rfl, FG, F1, N1, hit, hIg, hIn, hl, hj, Nat.zero_le _, rfl⟩
  rintro k s' ⟨g₁, h', tk, m', nx, i, rfl, FG1, F2, N2, it2, ig2, in2, l2, j2, le2, rfl⟩
  have isl : h'.IsList l vs.toArray := ⟨_, (N2 _ l2).1, rfl, nn, rfl⟩
  have next : ∀ h₁ : Heap, (∀ b o, b ∉ [I] → h'.get? b = some o → h₁.get? b = some o) → Fr g₁ env.locals h₁ m' ∧ News g₁ env.locals h₁ nx := fun h₁ hk =>
    ⟨⟨F2.ns.at' fun o e => hk _ o (fun z => hIL (List.mem_singleton.mp z).symm) e, fun b o e => hk b o (fun z => by rw [List.mem_singleton.mp z, ig2] at e; cases e) (F2.keep b o e), F2.above⟩,
      fun p hp => ⟨hk _ _ (fun z => in2 p hp (List.mem_singleton.mp z)) (N2 p hp).1, (N2 p hp).2⟩⟩
  by_cases hlt : i < vs.length
  · refine W.item i _ _ _ hlt ⟨it2, isl⟩ fun v h₁ tk₁ hP hst₁ hk₁ => ?_
    obtain ⟨F3, N3⟩ := next h₁ hk₁
    refine wpAny_assign_Name (wpAny_storeName_local hx F3.ns (fun h₂ hn₂ hs₂ => ?_) hp)
    have F4 := F3.set hn₂ hs₂
    have it4 : h₂.IsListIter I l (i + 1) := hst₁.1.at fun o e => (hs₂.2 I hIL).trans e
    obtain ⟨oI, hoI, _⟩ := id it4
    have N4 : News g₁ env.locals h₂ (nx ++ [(I, oI)]) := fun p hp => (List.mem_append.mp hp).elim (fun z => N3.set hs₂ p z) fun z => by
      rw [List.mem_singleton.mp z]
      exact ⟨hoI, hIL, ig2⟩
    have hoff : OwnOff [(I, oI)] (nx.map (·.1)) := fun p hp b hb z => by
      obtain ⟨q, hq, rfl⟩ := List.mem_map.mp hb
      rw [List.mem_singleton.mp hp] at z
      exact in2 q hq z.symm
    refine wpAny_passesOwn hE (wpAny_mono (turn g₁ i v m' nx h₂ _ [(I, oI)] FG1 (by simpa using hP) hoff l2 j2 F4 N4) (fun f s₃ h₃ => ?_) fun _ _ e => e)
    have fin : (∃ g, Fr h₀ L g m ∧ InvEndG g env.locals (fun m' nx => (l, listOf vs.toArray nn) ∈ nx ∧ J (i + 1) m' nx) [(I, oI)] { s with heap := h₂, toks := tk₁ + 1 } s₃) →
        ∃ k, k < vs.length + 1 - i ∧ ∃ g₁ h' tk m' nx i, s₃ = { s with heap := h', toks := tk } ∧ Fr h₀ L g₁ m ∧ Fr g₁ env.locals h' m' ∧ News g₁ env.locals h' nx ∧ h'.IsListIter I l i ∧ g₁.get? I = none ∧ (∀ p ∈ nx, p.1 ≠ I) ∧ (l, listOf vs.toArray nn) ∈ nx ∧ J i m' nx ∧ i ≤ vs.length ∧ k = vs.length + 1 - i := by
      rintro ⟨g₂, FG5, h5, tk5, m5, news5, nx5, e5, F5, N5, hn5, ho5, ha5, l5, j5⟩
      have own5 := N5 _ (ho5 _ (.head _))
      exact ⟨vs.length + 1 - (i + 1), by omega, g₂, h5, tk5, m5, nx5, i + 1, e5, FG5, F5, fun p hp => N5 p (hn5 p hp), it4.at fun o e => by rw [hoI] at e; cases e; exact own5.1, own5.2.2,
        fun p hp z => ha5 _ (.head _) p.1 (List.mem_map.mpr ⟨p, hp, rfl⟩) z.symm, l5, j5, hlt, rfl⟩
    cases f with
    | ret v => exact h₃
    | brk => exact h₃
    | next => exact fin h₃
    | cont => exact fin h₃
  · have hin : i = vs.length := by omega
    subst hin
    refine W.done _ _ _ ⟨it2, isl⟩ fun h₁ tk₁ hk₁ => wpAny_execs_nil ?_
    obtain ⟨F3, N3⟩ := next h₁ hk₁
    exact done g₁ m' nx h₁ tk₁ FG1 j2 F3 N3
theorem mv_list {σ : Type} {L l : Addr} {m m₀ : Str → Option Value} {g : Heap} {vs : List Value} {ds : List Dat} {nn : Nat} {news : List (Addr × Obj)} {px : Pos} (Led : σ → List (Addr × Obj)) (cst : List (Addr × Obj)) (ps : σ → List (Str × Value)) (Facts : List (Addr × Obj) → σ → Prop) (stored : List Str) (P : List Dat → σ → Prop) (adr : List Addr) (c₀ : σ)
    (hx : env.kindOf x = some .local) (hc : (env.scope.kind == .class || (env.scope.kind == .module && env.locals != env.globals)) = false) (hh : A.handled = none)
    (FG : Fr h₀ L g m) (hl : (l, listOf vs.toArray nn) ∈ cst) (hd : DatAll (cst ++ []) vs ds) (F : Fr g env.locals s.heap m₀) (N : News g env.locals s.heap news) (hn : ∀ p ∈ Led c₀ ++ (cst ++ []), p ∈ news) (hadr : ∀ c, (Led c ++ cst).map (·.1) = adr) (hf : Facts (cst ++ []) c₀) (hk : ∀ p ∈ ps c₀, m₀ p.1 = some p.2) (hp : P [] c₀)
    (turn : ∀ (g₁ : Heap) (c : σ) tl pre d post v (u : Str → Option Value) h tk own, Fr h₀ L g₁ m → ds = pre ++ d :: post → d ∈ ds → DatIn (cst ++ tl) v d → KdSep own tl adr → OwnOff (tl ++ own) adr → Facts (cst ++ tl) c → P pre c →
      Fr g₁ env.locals h (fun y => if y = x then some v else kstB (fun z => if stored.contains z then u z else m₀ z) (ps c) y) → News g₁ env.locals h (Led c ++ (cst ++ (tl ++ own))) →
      wpAny (model prog w) A (execs body env) (MvEnd h₀ L m env.locals (KdS Led cst ps Facts x stored m₀ P adr (pre ++ [d])) own { s with heap := h, toks := tk } Q) E { s with heap := h, toks := tk })
    (done : ∀ (g₁ : Heap) (c : σ) tl (u : Str → Option Value) h tk, Fr h₀ L g₁ m → OwnOff tl adr → Facts (cst ++ tl) c → P ds c → Fr g₁ env.locals h (fun y => if y = x then u y else kstB (fun z => if stored.contains z then u z else m₀ z) (ps c) y) → News g₁ env.locals h (Led c ++ (cst ++ tl)) → Q .next { s with heap := h, toks := tk })
    (hE : PassesOwn (model prog w) A env E := by passes_own) :
    wpAny (model prog w) A (pyIter (.ref l)) (fun it s₂ => codeAny (model prog w) A (.forLoop (.Name x px) it body [] env) (fun r s' => match r with | .ok f => Q f s' | .error e => cameBackBy (model prog w) A env E e s') s₂) E s := by
  have len := hd.length
  refine mv_iter (news := Led c₀ ++ (cst ++ [])) (fun i m nx => KdS Led cst ps Facts x stored m₀ P adr (ds.take i) m nx) hx hc hh FG (List.mem_append.mpr (.inr (List.mem_append.mpr (.inl hl)))) F (fun p z => N p (hn p z)) ?_ ?_ ?_ hE
  · exact ⟨c₀, [], rfl, fun _ z => (nomatch z), hf, hk, fun _ _ _ _ => rfl, by simpa using hp⟩
  · intro g₁ i v m₁ nx h tk own FG1 hv hoff l2 ⟨c, tl, e1, e2, e3, e4, e5, e6⟩ F1 N1
    subst e1
    have hi : i < ds.length := by rw [← len]; exact (List.getElem?_eq_some_iff.mp hv).1
    have hD : DatIn (cst ++ []) v (ds[i]'hi) := by
      obtain ⟨v', a, b⟩ := hd.get hi
      rw [hv] at a
      cases a
      exact b
    have hup : ds.take (i + 1) = ds.take i ++ [ds[i]'hi] := (List.take_append_getElem hi).symm
    have hcut : ds = ds.take i ++ (ds[i]'hi) :: ds.drop (i + 1) := by
      have z := List.take_append_drop (i + 1) ds
      rw [hup, List.append_assoc] at z
      exact z.symm
    obtain ⟨o1, o2⟩ := kd_split (hadr c) hoff
    have N2 : News g₁ env.locals h (Led c ++ (cst ++ (tl ++ own))) := by
      rw [List.append_assoc, List.append_assoc] at N1
      exact N1
    have D2 : DatIn (cst ++ tl) v (ds[i]'hi) := DatIn.mono (fun p z => List.mem_append.mpr (.inl (by rwa [List.append_nil] at z))) hD
    have back : ∀ s₂, (∃ g, Fr h₀ L g m ∧ InvEndG g env.locals (KdS Led cst ps Facts x stored m₀ P adr (ds.take i ++ [ds[i]'hi])) own { s with heap := h, toks := tk } s₂) →
        ∃ g, Fr h₀ L g m ∧ InvEndG g env.locals (fun m' nx => (l, listOf vs.toArray nn) ∈ nx ∧ KdS Led cst ps Facts x stored m₀ P adr (ds.take (i + 1)) m' nx) own { s with heap := h, toks := tk } s₂ := by
      rintro s₂ ⟨g₂, FG2, h2, tk2, m2, nw, nx2, a1, a2, a3, a4, a5, a6, a7⟩
      refine ⟨g₂, FG2, h2, tk2, m2, nw, nx2, a1, a2, a3, a4, a5, a6, ?_, by rw [hup]; exact a7⟩
      obtain ⟨c2, tl2, z, _⟩ := a7
      rw [z]
      exact List.mem_append.mpr (.inr (List.mem_append.mpr (.inl hl)))
    refine wpAny_mono (turn g₁ c tl (ds.take i) (ds[i]'hi) (ds.drop (i + 1)) v m₁ h tk own FG1 hcut (List.getElem_mem hi) D2 ⟨o1, o2, e2⟩ (kd_off o1 e2) e3 e6 (kst_fr e4 e5 F1) N2) (fun f s₂ z => ?_) fun _ _ z => z
    cases f with
    | ret v => exact z
    | brk => exact z
    | next => exact back s₂ z
    | cont => exact back s₂ z
  · intro g₁ m₁ nx h tk FG1 ⟨c, tl, e1, e2, e3, e4, e5, e6⟩ F1 N1
    subst e1
    rw [len, List.take_length] at e6
    exact done g₁ c tl m₁ h tk FG1 e2 e3 e6 (kst_frOut e4 e5 F1) N1
end
section
variable {prog : Program} {w : World} {A₀ A : Around} {s : Shared} {base h₀ : Heap} {outer : List Env} {env : Env} {L : Addr} {m : Str → Option Value} {news : List (Addr × Obj)} {K : Frag} {p : Program} {loose : List Str} {mean : ExcName → Option Value} {mg mb : Str → Option Value}
  {R : Result → Shared → Prop} {name qual : Str} {params : Arguments} {body : List Stmt} {scope : Scope} {dV kV doc pm cdv ct oc : Value} {an od : Option Addr} {osl : Array (Option Value)} {f : Addr} {args : Args} {binds : List (Str × Value)}
/-- a def is entered; what stands behind it is told of the heap alone -/
theorem enterM (B : Below A₀ base outer h₀) (F : Fr h₀ L s.heap m) (X₀ : K.In h₀) (N : News h₀ L s.heap news) (T : Top p loose mean mg mb h₀) (hA : A.frames = some (env :: outer)) (hf : env.frame = some L) (hke : env.scope.kind = .function)
    (ho : K.lookup f = some ⟨oc, od, .func (fnOf name qual params body scope dV kV doc pm an cdv ct), osl⟩) (hcd : codeIn K cdv qual = true) (hroom : A.depth < recursionLimit)
    (hbind : BindsTo s (fnOf name qual params body scope dV kV doc pm an cdv ct) args binds) (hloc : ∀ y ∈ binds, scope.names.lookup y.1 = some .local)
    (h : ∀ g L' h₁, Fr h₀ L g m → Fr g L' h₁ (fun y => binds.reverse.lookup y) → News g L' h₁ news →
      wpAny (model prog w) (A.deeper (envOf qual scope L' f cdv)) (execs body (envOf qual scope L' f cdv)) (fun fl s' => R (.ok (.ret (match fl with | .ret v => v | _ => .none))) s')
        (fun e s' => wpAny (model prog w) (A.deeper (envOf qual scope L' f cdv)) (leaving (envOf qual scope L' f cdv) e) (fun _ s'' => R (.error e) s'') (fun e' s'' => R (.error e') s'') s')
        { s with heap := h₁, toks := s.toks + binds.length })
    (hco : scope.isCoroutine = false) (hgen : scope.isGenerator = false) (hk : scope.kind = .function) (hcell : ∀ x ∈ scope.names, x.2 ≠ .cell) : codeAny (model prog w) A (.call (.ref f) args) R s := by
  obtain ⟨FG, _, _, _⟩ := groundX (R := R) B F N hA hf hke
  have X := X₀.keeps F.keep
  refine codeAny_call_def (fd := fnOf name qual params body scope dV kV doc pm an cdv ct) (body := body) (binds := binds) hroom (X _ _ ho) rfl (T.nolimit.keeps F.keep) (codeRec_of X hcd) rfl hbind hcell hloc (fun h₁ hns hk₁ => ?_) hco hgen hk
  exact h _ s.heap.objs.size h₁ FG ⟨hns, fun b o e => hk₁ b o (of_hideAll _ e), Nat.le_of_eq (hideAll_size _ _)⟩
    (fun p hp => ⟨hk₁ _ _ (N p hp).1, Nat.ne_of_lt (Heap.lt_size (N p hp).1), hideAll_none _ (List.mem_map_of_mem hp)⟩)
end
end Mine
end
section
open PySem PySem.W PyProof.Rows PySem.Spec PySem.Calls
set_option maxRecDepth 100000
namespace Mine
abbrev deskNames : List Str := [Str.ofString "number", Str.ofString "peer", Str.ofString "port", Str.ofString "error", Str.ofString "top", Str.ofString "below", Str.ofString "total", Str.ofString "run"]
/-- the desk's lists: values, room, data -/
abbrev Desk2 : Type := (List Value × Nat × List Dat) × (List Value × Nat × List Dat)
abbrev DeskSt (items : List (Nat × Nat)) (R Bk : Addr) (cst : List (Addr × Obj)) (m₀ : Str → Option Value) (adr : List Addr) (pre : List Dat) (m : Str → Option Value) (nx : List (Addr × Obj)) : Prop :=
  KdS (σ := Desk2) (fun c => [(Bk, listOf c.2.1.toArray c.2.2.1), (R, listOf c.1.1.toArray c.1.2.1)]) cst (fun _ => []) (fun nx c => DatAll nx c.1.1 c.1.2.2 ∧ DatAll nx c.2.1 c.2.2.2) (Str.ofString "line") deskNames m₀
    (fun pre c => c.1.2.2.length ≤ pre.length ∧ c.2.2.2.length ≤ 3 * pre.length ∧ WDesk items pre.length c.1.2.2 c.2.2.2) adr pre m nx
section
variable {prog : Program} {w : World} {A : Around} {E : Value → Shared → Prop} {s : Shared} {env : Env} {h₀ : Heap} {body : List Stmt} {Q : Flow → Shared → Prop}
theorem desk_loop {L l R Bk : Addr} {m m₀ : Str → Option Value} {g : Heap} {us : List Value} {n rn0 bn0 : Nat} {news : List (Addr × Obj)} {px : Pos} {items : List (Nat × Nat)}
    (hx : env.kindOf (Str.ofString "line") = some .local) (hc : (env.scope.kind == .class || (env.scope.kind == .module && env.locals != env.globals)) = false) (hh : A.handled = none)
    (FG : Fr h₀ L g m) (hus : DatAll [] us (items.map lineDat)) (F : Fr g env.locals s.heap m₀) (N : News g env.locals s.heap ((Bk, listOf [].toArray bn0) :: (R, listOf [].toArray rn0) :: (l, listOf us.toArray n) :: news))
    (turn : ∀ (g₁ : Heap) (rus : List Value) (rn : Nat) (runs : List Dat) (bus : List Value) (bn : Nat) (book : List Dat) (tl : List (Addr × Obj)) (pre : List Dat) (k v len : Nat) (tv : Tok) (u : Str → Option Value) (h : Heap) (tk : Nat) (own : List (Addr × Obj)),
      Fr h₀ L g₁ m → items[pre.length]? = some (k, v) → items.length = pre.length + len + 1 → KdSep own tl (Bk :: R :: l :: news.map (·.1)) → OwnOff (tl ++ own) (Bk :: R :: l :: news.map (·.1)) →
      DatAll (((l, listOf us.toArray n) :: news) ++ tl) rus runs → DatAll (((l, listOf us.toArray n) :: news) ++ tl) bus book → runs.length ≤ pre.length → book.length ≤ 3 * pre.length → rus.length = runs.length → bus.length = book.length → WDesk items pre.length runs book →
      Fr g₁ env.locals h (fun y => if y = Str.ofString "line" then some (.str (lineOf k v) tv) else if deskNames.contains y then u y else m₀ y) →
      News g₁ env.locals h ((Bk, listOf bus.toArray bn) :: (R, listOf rus.toArray rn) :: (l, listOf us.toArray n) :: (news ++ (tl ++ own))) →
      wpAny (model prog w) A (execs body env) (MvEnd h₀ L m env.locals (DeskSt items R Bk ((l, listOf us.toArray n) :: news) m₀ (Bk :: R :: l :: news.map (·.1)) (pre ++ [.str (lineOf k v)])) own { s with heap := h, toks := tk } Q) E { s with heap := h, toks := tk })
    (done : ∀ (g₁ : Heap) (rus : List Value) (rn : Nat) (runs : List Dat) (bus : List Value) (bn : Nat) (tl : List (Addr × Obj)) (u : Str → Option Value) (h : Heap) (tk : Nat), Fr h₀ L g₁ m →
      DatAll (((l, listOf us.toArray n) :: news) ++ tl) bus (deskF items).2 →
      Fr g₁ env.locals h (fun y => if y = Str.ofString "line" then u y else if deskNames.contains y then u y else m₀ y) →
      News g₁ env.locals h ((Bk, listOf bus.toArray bn) :: (R, listOf rus.toArray rn) :: (l, listOf us.toArray n) :: (news ++ tl)) → Q .next { s with heap := h, toks := tk })
    (hE : PassesOwn (model prog w) A env E := by passes_own) :
    wpAny (model prog w) A (pyIter (.ref l)) (fun it s₂ => codeAny (model prog w) A (.forLoop (.Name (Str.ofString "line") px) it body [] env) (fun r s' => match r with | .ok f => Q f s' | .error e => cameBackBy (model prog w) A env E e s') s₂) E s := by
  refine mv_list (σ := Desk2) (ds := items.map lineDat) (fun c => [(Bk, listOf c.2.1.toArray c.2.2.1), (R, listOf c.1.1.toArray c.1.2.1)]) ((l, listOf us.toArray n) :: news) (fun _ => []) (fun nx c => DatAll nx c.1.1 c.1.2.2 ∧ DatAll nx c.2.1 c.2.2.2) deskNames
    (fun pre c => c.1.2.2.length ≤ pre.length ∧ c.2.2.2.length ≤ 3 * pre.length ∧ WDesk items pre.length c.1.2.2 c.2.2.2) (Bk :: R :: l :: news.map (·.1)) (([], rn0, []), [], bn0, []) hx hc hh FG (.head _) (DatAll.mono (fun p (z : p ∈ ([] : List (Addr × Obj))) => nomatch z) hus) F N ?_ (fun _ => rfl) ⟨.nil, .nil⟩ (fun p (z : p ∈ ([] : List (Str × Value))) => nomatch z) ⟨Nat.le_refl _, Nat.le_refl _, WDesk.start items⟩ ?_ ?_ hE
  · intro p hp
    rw [List.append_nil] at hp
    exact hp
  · rintro g₁ ⟨⟨rus, rn, runs⟩, bus, bn, book⟩ tl pre d post v u h tk own FG1 heq hmem hD hsep hO4 ⟨hD1, hD2⟩ ⟨p1, p2, hW⟩ F1 N1
    obtain ⟨k, v', hat, rfl⟩ := line_at heq
    obtain ⟨tv, rfl⟩ := datin_str hD
    have hl := congrArg List.length heq
    rw [List.length_map, List.length_append, List.length_cons] at hl
    refine turn g₁ rus rn runs bus bn book tl pre k v' post.length tv u h tk own FG1 hat (by omega) hsep hO4 hD1 hD2 p1 p2 hD1.length hD2.length hW F1 ?_
    simpa using N1
  · rintro g₁ ⟨⟨rus, rn, runs⟩, bus, bn, book⟩ tl u h tk FG1 hO ⟨hD1, hD2⟩ ⟨p1, p2, hW⟩ F1 N1
    have e := hW.book
    rw [List.length_map, List.take_length] at e
    subst e
    exact done g₁ rus rn runs bus bn tl u h tk FG1 hD2 F1 (by simpa using N1)
end
theorem desk_done {h₀ g h : Heap} {L L' l D R : Addr} {m m' : Str → Option Value} {us bus rus : List Value} {n bn rn : Nat} {news tl : List (Addr × Obj)} {items : List (Nat × Nat)} {s : Shared} {tk : Nat} {Q : Value → Shared → Prop}
    (hret : ∀ (D n' : Nat) (bus : List Value) (tl : List (Addr × Obj)) (h' : Heap) (tk' : Nat), Fr h₀ L h' m → News h₀ L h' ((D, PySem.W.listOf bus.toArray n') :: (tl ++ ((l, PySem.W.listOf us.toArray n) :: news))) → DatAll (tl ++ ((l, PySem.W.listOf us.toArray n) :: news)) bus (deskF items).2 → Q (.ref D) { s with heap := h', toks := tk' })
    (FG : Fr h₀ L g m) (F : Fr g L' h m') (N : News g L' h ((D, listOf bus.toArray bn) :: (R, listOf rus.toArray rn) :: (l, listOf us.toArray n) :: (news ++ tl)))
    (hD : DatAll (((l, listOf us.toArray n) :: news) ++ tl) bus (deskF items).2) : Q (.ref D) { s with heap := h, toks := tk } := by
  have N' := news_out FG N
  refine hret D bn bus ((R, listOf rus.toArray rn) :: tl) h tk (fr_out FG F) (fun p hp => N' p ?_) (DatAll.mono (fun p hp => ?_) hD)
  · simp only [List.mem_cons, List.mem_append, List.cons_append] at hp ⊢
    grind
  · simp only [List.mem_cons, List.mem_append, List.cons_append] at hp ⊢
    grind
/-- a turn's end, plainly -/
theorem desk_end {items : List (Nat × Nat)} {h₀ g h : Heap} {L L' l R Bk D : Addr} {m m₀ m' : Str → Option Value} {us rus bus : List Value} {n rn bn : Nat} {runs book pre : List Dat} {d : Dat} {news tl own rest : List (Addr × Obj)} {o : Obj} {s₁ : Shared} {tk : Nat} {Q : Flow → Shared → Prop}
    (FG : Fr h₀ L g m) (hsep : KdSep own tl (Bk :: R :: l :: news.map (·.1))) (F : Fr g L' h m') (N : News g L' h ((D, o) :: rest)) (hlt : AllLt D rest)
    (hn : ∀ p ∈ (Bk, listOf bus.toArray bn) :: (R, listOf rus.toArray rn) :: (l, listOf us.toArray n) :: (news ++ (tl ++ own)), p ∈ rest)
    (hr : ∀ z, z ≠ Str.ofString "line" → (∀ p ∈ ([] : List (Str × Value)), z ≠ p.1) → deskNames.contains z = false → m' z = m₀ z)
    (hf : DatAll (((l, listOf us.toArray n) :: news) ++ ([(D, o)] ++ tl)) rus runs ∧ DatAll (((l, listOf us.toArray n) :: news) ++ ([(D, o)] ++ tl)) bus book)
    (hp : runs.length ≤ (pre ++ [d]).length ∧ book.length ≤ 3 * (pre ++ [d]).length ∧ WDesk items (pre ++ [d]).length runs book) :
    MvEnd h₀ L m L' (DeskSt items R Bk ((l, listOf us.toArray n) :: news) m₀ (Bk :: R :: l :: news.map (·.1)) (pre ++ [d])) own s₁ Q .next { s₁ with heap := h, toks := tk } := by
  refine ⟨g, FG, ?_⟩
  refine kd_end1 (σ := Desk2) ((rus, rn, runs), bus, bn, book) hsep F N hlt (fun p hp => hn p ?_) (fun p hp => hn p ?_) rfl (fun p (z : p ∈ ([] : List (Str × Value))) => nomatch z) hr hf hp
  · simp only [List.mem_cons, List.mem_append, List.cons_append, List.nil_append] at hp ⊢
    grind
  · simp only [List.mem_cons, List.mem_append, List.cons_append] at hp ⊢
    grind
theorem own_strK {prog : Program} {w : World} {A : Around} {E : Value → Shared → Prop} {s : Shared} {K : Frag} {h₀ : Heap} {L e t C : Addr} {news : List (Addr × Obj)} {m₀ : Str → Option Value} {m : Str} {u : Tok} (hu : A.units + 2 < cLine) {Q : Value → Shared → Prop}
    (F : Fr h₀ L s.heap m₀) (X : K.In h₀) (N : News h₀ L s.heap news) (G : Got news e t (.ref C) [.str m u]) (hs : findIn K (.ref C) "__str__" = some (some (.builtin "BaseException.__str__")))
    (hm : mroIn K C (.type "BaseException") = some true) (hq : Q (.str m u) s) : wpAny (model prog w) A (call (.type "str") [.ref e]) Q E s := own_str hu (X.keeps F.keep) N G hs hm hq
end Mine
end
section
open PySem PySem.W PyProof.Rows PySem.Spec PySem.Calls
set_option maxRecDepth 100000
namespace Mine
/-- what a line's reply leaves: runs and book amid a turn -/
def MidP (items : List (Nat × Nat)) (p k v : Nat) (runs book' : List Dat) : Prop := ∃ G, runs = G.map runDat ∧ MidG items p k v G book'
section
variable {items : List (Nat × Nat)} {p k v : Nat} {held H : List Nat} {book : List Dat}
theorem mp_good (h6 : k < 6) (hv : v ≤ 5) (hs : ∀ x ∈ held, x ≤ 5) (hd : deskF (items.take p) = (held, book)) (hl : (held.map runDat).length ≤ p) (hb : book.length ≤ 3 * p) : MidP items p k v (held.map runDat ++ [Dat.str (rep 34 v)]) (book ++ [Dat.int (book.length : Int)]) :=
  ⟨_, by simp [runDat], mg_good h6 hv hs hd (by simpa using hl) hb⟩
theorem mp_six (hs : ∀ x ∈ held, x ≤ 5) (hd : deskF (items.take p) = (held, book)) (hl : (held.map runDat).length ≤ p) (hb : book.length ≤ 3 * p) : MidP items p 6 v (held.map runDat) (book ++ [Dat.str (Str.ofString "proto " ++ lineOf 6 v)]) := ⟨_, rfl, mg_six hs hd (by simpa using hl) hb⟩
theorem mp_seven (hs : ∀ x ∈ held, x ≤ 5) (hd : deskF (items.take p) = (held, book)) (hl : (held.map runDat).length ≤ p) (hb : book.length ≤ 3 * p) : MidP items p 7 v (held.map runDat) (book ++ [Dat.str (Str.ofString "reply " ++ lineOf 7 v)]) := ⟨_, rfl, mg_seven hs hd (by simpa using hl) hb⟩
theorem mp_13 {x : Nat} (h5 : ∀ x ∈ H, x ≤ 5) (hx : x ≤ 5) (hd : deskF (items.take p) = (H ++ [x], book)) (hl : (H.map runDat ++ [Dat.str (rep 34 x)]).length ≤ p) (hb : book.length ≤ 3 * p) : MidP items p 13 0 (H.map runDat ++ [Dat.str (rep 34 (x / 2))]) book := ⟨_, by simp [runDat], mg_13 h5 hx hd (by simpa using hl) hb⟩
theorem mp_14 {x z : Nat} {s : Str} (hs : s = rep 34 z) (h5 : ∀ x ∈ H, x ≤ 5) (hd : deskF (items.take p) = (H ++ [x], book)) (hl : (H.map runDat ++ [Dat.str (rep 34 x)]).length ≤ p) (hb : book.length ≤ 3 * p) (hz : x % 2 = z) : MidP items p 14 0 (H.map runDat ++ [Dat.str s]) book := ⟨_, by rw [hs, ← hz]; simp [runDat], mg_14 h5 hd (by simpa using hl) hb⟩
theorem mp_two {x y : Nat} (h8 : 8 ≤ k) (h12 : k ≤ 12) (h5 : ∀ x ∈ H, x ≤ 5) (hx : x ≤ 5) (hy : y ≤ 5) (hd : deskF (items.take p) = ((H ++ [x]) ++ [y], book)) (hl : ((H.map runDat ++ [Dat.str (rep 34 x)]) ++ [Dat.str (rep 34 y)]).length ≤ p) (hb : book.length ≤ 3 * p) : MidP items p k 0 (H.map runDat ++ [Dat.str (rep 34 (two (k - 8) x y))]) book := ⟨_, by simp [runDat], mg_two h8 h12 h5 hx hy hd (by simpa using hl) hb⟩
theorem mp_out {pre : List Dat} {runs book' : List Dat} (hat : items[pre.length]? = some (k, v)) (h : MidP items pre.length k v runs book') :
    ∃ G : List Nat, runs = G.map runDat ∧ (∀ x ∈ G, x ≤ 5) ∧ G.length ≤ pre.length + 1 ∧ book'.length ≤ 3 * pre.length + 1 ∧
      ∀ d, (G.map runDat).length ≤ (pre ++ [d]).length ∧ ((book' ++ [Dat.list (G.map runDat)]) ++ [Dat.bytes (lets G)]).length ≤ 3 * (pre ++ [d]).length ∧ WDesk items (pre ++ [d]).length (G.map runDat) ((book' ++ [Dat.list (G.map runDat)]) ++ [Dat.bytes (lets G)]) := by
  obtain ⟨G, rfl, h⟩ := h
  obtain ⟨h1, h2, h3, h4⟩ := mg_out hat h
  refine ⟨G, rfl, h1, h2, h3, fun d => ?_⟩
  have el : (pre ++ [d]).length = pre.length + 1 := by simp
  rw [el]
  exact ⟨by simpa using h2, by simp; omega, ⟨by rw [h4], by rw [h4]⟩⟩
end
/-- the state amid a turn of the desk -/
def MidD (h₀ : Heap) (L : Addr) (m : Str → Option Value) (L' R Bk : Addr) (cst nx : List (Addr × Obj)) (tl : List (Addr × Obj)) (m₀ : Str → Option Value) (items : List (Nat × Nat)) (p k v : Nat) (s₁ s' : Shared) : Prop :=
  ∃ (g : Heap) (rus : List Value) (rn : Nat) (runs : List Dat) (bus : List Value) (bn : Nat) (book : List Dat) (u : Str → Option Value) (h : Heap) (tk : Nat), s' = { s₁ with heap := h, toks := tk } ∧ Fr h₀ L g m ∧ DatAll (cst ++ tl) rus runs ∧ DatAll (cst ++ tl) bus book ∧ MidP items p k v runs book ∧
    Fr g L' h (fun y => if y = Str.ofString "line" then u y else if deskNames.contains y then u y else m₀ y) ∧ News g L' h ((Bk, listOf bus.toArray bn) :: (R, listOf rus.toArray rn) :: nx)
theorem mid_frame {m' m₀ : Str → Option Value} (hr : ∀ z, z ≠ Str.ofString "line" → (∀ p ∈ ([] : List (Str × Value)), z ≠ p.1) → deskNames.contains z = false → m' z = m₀ z) : m' = fun y => if y = Str.ofString "line" then m' y else if deskNames.contains y then m' y else m₀ y := by
  funext y
  by_cases h1 : y = Str.ofString "line"
  · rw [if_pos h1]
  · rw [if_neg h1]
    cases h2 : deskNames.contains y with
    | true => rfl
    | false => exact hr y h1 (fun p (z : p ∈ ([] : List (Str × Value))) => nomatch z) h2
theorem mid_mk {items : List (Nat × Nat)} {h₀ g h : Heap} {L L' R Bk : Addr} {m m₀ m' : Str → Option Value} {rus bus : List Value} {rn bn p k v : Nat} {runs book : List Dat} {cst nx tl all : List (Addr × Obj)} {s₁ : Shared} {tk : Nat} {Q : Flow → Shared → Prop}
    (hq : ∀ s', MidD h₀ L m L' R Bk cst nx tl m₀ items p k v s₁ s' → Q .next s')
    (FG : Fr h₀ L g m) (F : Fr g L' h m') (N : News g L' h all)
    (hn : ∀ p ∈ (Bk, listOf bus.toArray bn) :: (R, listOf rus.toArray rn) :: nx, p ∈ all)
    (hr : ∀ z, z ≠ Str.ofString "line" → (∀ p ∈ ([] : List (Str × Value)), z ≠ p.1) → deskNames.contains z = false → m' z = m₀ z)
    (hf : DatAll (cst ++ tl) rus runs ∧ DatAll (cst ++ tl) bus book)
    (hp : MidP items p k v runs book) : Q .next { s₁ with heap := h, toks := tk } :=
  hq _ ⟨g, rus, rn, runs, bus, bn, book, m', h, tk, rfl, FG, hf.1, hf.2, hp, mid_frame hr ▸ F, fun p hp => N p (hn p hp)⟩
section
variable {prog : Program} {w : World} {A : Around} {E : Value → Shared → Prop} {s : Shared} {env : Env} {h₀ : Heap} {s1 s2 : Stmt} {rest : List Stmt} {Q : Flow → Shared → Prop}
/-- the desk's loop: the reply and the rest of a turn apart -/
theorem desk_loop2 {L l R Bk : Addr} {m m₀ : Str → Option Value} {g : Heap} {us : List Value} {n rn0 bn0 : Nat} {news : List (Addr × Obj)} {px : Pos} {items : List (Nat × Nat)}
    (hx : env.kindOf (Str.ofString "line") = some .local) (hc : (env.scope.kind == .class || (env.scope.kind == .module && env.locals != env.globals)) = false) (hh : A.handled = none)
    (FG : Fr h₀ L g m) (hus : DatAll [] us (items.map lineDat)) (F : Fr g env.locals s.heap m₀) (N : News g env.locals s.heap ((Bk, listOf [].toArray bn0) :: (R, listOf [].toArray rn0) :: (l, listOf us.toArray n) :: news))
    (head : ∀ (g₁ : Heap) (rus : List Value) (rn : Nat) (runs : List Dat) (bus : List Value) (bn : Nat) (book : List Dat) (tl : List (Addr × Obj)) (p k v : Nat) (tv : Tok) (u : Str → Option Value) (h : Heap) (tk : Nat) (own : List (Addr × Obj)) (Q₁ : Flow → Shared → Prop),
      Fr h₀ L g₁ m → items[p]? = some (k, v) → p < items.length → OwnOff (tl ++ own) (Bk :: R :: l :: news.map (·.1)) → DatAll (((l, listOf us.toArray n) :: news) ++ tl) rus runs → DatAll (((l, listOf us.toArray n) :: news) ++ tl) bus book → runs.length ≤ p → book.length ≤ 3 * p → rus.length = runs.length → bus.length = book.length → WDesk items p runs book →
      Fr g₁ env.locals h (fun y => if y = Str.ofString "line" then some (.str (lineOf k v) tv) else if deskNames.contains y then u y else m₀ y) →
      News g₁ env.locals h ((Bk, listOf bus.toArray bn) :: (R, listOf rus.toArray rn) :: (l, listOf us.toArray n) :: (news ++ (tl ++ own))) →
      (∀ s', MidD h₀ L m env.locals R Bk ((l, listOf us.toArray n) :: news) ((l, listOf us.toArray n) :: (news ++ (tl ++ own))) tl m₀ items p k v s s' → Q₁ .next s') →
      wpAny (model prog w) A (execs [s1, s2] env) Q₁ E { s with heap := h, toks := tk })
    (tail : ∀ (g₁ : Heap) (rus : List Value) (rn : Nat) (G : List Nat) (bus : List Value) (bn : Nat) (book : List Dat) (tl : List (Addr × Obj)) (pre : List Dat) (d : Dat) (u : Str → Option Value) (h : Heap) (tk : Nat) (own : List (Addr × Obj)) (s₁ : Shared) (Q₁ : Flow → Shared → Prop),
      Fr h₀ L g₁ m → pre.length < items.length → KdSep own tl (Bk :: R :: l :: news.map (·.1)) → OwnOff (tl ++ own) (Bk :: R :: l :: news.map (·.1)) → DatAll (((l, listOf us.toArray n) :: news) ++ tl) rus (G.map runDat) → DatAll (((l, listOf us.toArray n) :: news) ++ tl) bus book → (∀ x ∈ G, x ≤ 5) → G.length ≤ pre.length + 1 → book.length ≤ 3 * pre.length + 1 → rus.length = G.length → bus.length = book.length →
      ((G.map runDat).length ≤ (pre ++ [d]).length ∧ ((book ++ [Dat.list (G.map runDat)]) ++ [Dat.bytes (lets G)]).length ≤ 3 * (pre ++ [d]).length ∧ WDesk items (pre ++ [d]).length (G.map runDat) ((book ++ [Dat.list (G.map runDat)]) ++ [Dat.bytes (lets G)])) →
      Fr g₁ env.locals h (fun y => if y = Str.ofString "line" then u y else if deskNames.contains y then u y else m₀ y) →
      News g₁ env.locals h ((Bk, listOf bus.toArray bn) :: (R, listOf rus.toArray rn) :: (l, listOf us.toArray n) :: (news ++ (tl ++ own))) →
      (∀ s', MvEnd h₀ L m env.locals (DeskSt items R Bk ((l, listOf us.toArray n) :: news) m₀ (Bk :: R :: l :: news.map (·.1)) (pre ++ [d])) own s Q .next s' → Q₁ .next s') →
      wpAny (model prog w) A (execs rest env) Q₁ E { s with heap := h, toks := tk })
    (done : ∀ (g₁ : Heap) (rus : List Value) (rn : Nat) (runs : List Dat) (bus : List Value) (bn : Nat) (tl : List (Addr × Obj)) (u : Str → Option Value) (h : Heap) (tk : Nat), Fr h₀ L g₁ m →
      DatAll (((l, listOf us.toArray n) :: news) ++ tl) bus (deskF items).2 →
      Fr g₁ env.locals h (fun y => if y = Str.ofString "line" then u y else if deskNames.contains y then u y else m₀ y) →
      News g₁ env.locals h ((Bk, listOf bus.toArray bn) :: (R, listOf rus.toArray rn) :: (l, listOf us.toArray n) :: (news ++ tl)) → Q .next { s with heap := h, toks := tk })
    (hE : PassesOwn (model prog w) A env E := by passes_own) :
    wpAny (model prog w) A (pyIter (.ref l)) (fun it s₂ => codeAny (model prog w) A (.forLoop (.Name (Str.ofString "line") px) it (s1 :: s2 :: rest) [] env) (fun r s' => match r with | .ok f => Q f s' | .error e => cameBackBy (model prog w) A env E e s') s₂) E s := by
  refine desk_loop hx hc hh FG hus F N (fun g₁ rus rn runs bus bn book tl pre k v len tv u h tk own FG1 hat hlen hsep hO4 hD1 hD2 p1 p2 e1 e2 hW F1 N1 => ?_) done hE
  refine execs_cut2 (P := MidD h₀ L m env.locals R Bk ((l, listOf us.toArray n) :: news) ((l, listOf us.toArray n) :: (news ++ (tl ++ own))) tl m₀ items pre.length k v s) ?_ ?_
  · exact head g₁ rus rn runs bus bn book tl pre.length k v tv u h tk own _ FG1 hat (by omega) hO4 hD1 hD2 p1 p2 e1 e2 hW F1 N1 fun s' hs => hs
  · rintro s' ⟨g3, rus3, rn3, runs3, bus3, bn3, book3, u3, h3, tk3, rfl, FG3, hD3, hD4, hM, F3, N3⟩
    obtain ⟨G, rfl, hG, q1, q2, q3⟩ := mp_out hat hM
    exact tail g3 rus3 rn3 G bus3 bn3 book3 tl pre (.str (lineOf k v)) u3 h3 tk3 own s _ FG3 (by omega) hsep hO4 hD3 hD4 hG q1 q2 (by rw [hD3.length, List.length_map]) hD4.length (q3 _) F3 N3 fun s' hs => hs
end
end Mine
end
section
open PySem PySem.W PyProof.Rows
namespace Mine
section
set_option maxRecDepth 100000 in
set_option maxHeartbeats 16000000 in
theorem desk_c (w : World) (items : List (Nat × Nat)) (e : Nat) (hT : Talk 0 items e) (hlen : items.length ≤ 12) (l n : Nat) (us : List Value) (hus : DatAll [] us (items.map lineDat)) :
  ∀ (mean : ExcName → Option Value) (mg mb : Str → Option Value) (dp un : Nat) (gd : Option (List Code)) (cn : Str) (cs : Scope) (a : Addr) (ccd : Value) (cl : List (Str × Addr)) (outer : List Env) (A₀ : Around) (h₀ : Heap) (L : Addr) (m : Str → Option Value) (news : List (Addr × Obj)) (s : Shared) (Q E : Value → Shared → Prop),
    Below A₀ h₀ outer h₀ → Fr h₀ L s.heap m → (Mine.hd.heap_1 w.params).In h₀ → News h₀ L s.heap ((l, PySem.W.listOf us.toArray n) :: news) → Top Mine.hd.view_1 (looseW Mine.hd.view_1 [Str.ofString "EXACT_TOKEN_TYPES"]) mean mg mb h₀ → cs.kind = .function →
    dp + 30 < recursionLimit → un + 8 * 30 < cLine →
    (∀ (D n' : Nat) (bus : List Value) (tl : List (Addr × Obj)) (h' : Heap) (tk' : Nat), Fr h₀ L h' m → News h₀ L h' ((D, PySem.W.listOf bus.toArray n') :: (tl ++ ((l, PySem.W.listOf us.toArray n) :: news))) → DatAll (tl ++ ((l, PySem.W.listOf us.toArray n) :: news)) bus (deskF items).2 → Q (.ref D) { s with heap := h', toks := tk' }) →
    wpAny (model PySem.Challenge.rw_wn0106_01.row.prog w) (ktrTop dp un gd cn cs L a ccd cl outer) (call (.ref 150) [.ref l]) Q E s := by
  k_fill
  k_with_none
  intro mean mg mb dp un gd cn cs a ccd cl outer A₀ h₀ L m news s Q E B F X N T hk hd hu hret
  k_with "!MyUse" => (((case k1 => k_asm); (case k2 => k_asm); (case k3 => k_asm); (case k4 => k_asm); (case k5 => k_asm); (case kK => first | exact rfl | assumption); (case kd => ktr_room); (case ku => ktr_units); intro t9 h9 tk9 F9 N9; (try dsimp only); (try k_fold)))
  k_with "!call ref" => (((with_reducible show wpAny _ _ (call (Value.ref 89) _) _ _ _); (refine' Pure1.use (isnon_c _ _ _) ?k1 ?k2 ?k3 ?k4 ?k5 ?kK ?kd ?ku ?_); walk_at "MyUse"))
  k_with "!call ref" => (((with_reducible show wpAny _ _ (call (Value.ref 65) _) _ _ _); (first
    | (refine' Pure1.use (p257_q _ _ _ ?ka) ?k1 ?k2 ?k3 ?k4 ?k5 ?kK ?kd ?ku ?_; (case ka => omega); walk_at "MyUse")
    | (refine' Pure1.use (p257_x _ _ _ ?ka) ?k1 ?k2 ?k3 ?k4 ?k5 ?kK ?kd ?ku ?_; (case ka => omega); walk_at "MyUse"))))
  k_with "!call ref" => (((with_reducible show wpAny _ _ (call (Value.ref 143) _) _ _ _); (refine' Pure1.use (two_c _ _ _ _ _ _ _ ?ka ?kb ?kc) ?k1 ?k2 ?k3 ?k4 ?k5 ?kK ?kd ?ku ?_); (case ka => omega); (case kb => omega); (case kc => omega); walk_at "MyUse"))
  k_with "!binaryOp Mult str int" => ((refine mul_e (mul_quote _) (by decide +kernel) (by omega) (by omega) ?_; intro _ _; (try dsimp only)))
  k_with "!getMethod ref" => (((with_reducible show wpAny _ _ (getMethod (Value.ref 73) _ _) _ _ _); k_dflt (refine tok_meth (by assumption) (by assumption) ?_)))
  k_with "!call builtin:dict.get" => ((first
    | (refine tok_miss (by assumption) (by assumption) (tok_low (by omega) (by omega)) ?_; (try dsimp only))
    | (refine tok_hit (by assumption) (by assumption) tok_13 ?_; intro _; (try dsimp only))
    | (refine tok_hit (by assumption) (by assumption) tok_14 ?_; intro _; (try dsimp only))
    | (refine tok_hit (by assumption) (by assumption) (tok_two (by omega) (by omega)) ?_; intro _; (try dsimp only))))
  k_with "!call ref" => (((with_reducible show wpAny _ _ (call (Value.ref 58) _) _ _ _); (first
    | (refine' PureT.use (p229_c _ _ _ _ _ _ _ _ ?ka ?kb) ?k1 ?k2 ?k3 ?k4 ?k5 ?kK ?kd ?ku ?_; (case k4 => k_dflt assumption); (case ka => omega); (case kb => omega); (case k1 => k_asm); (case k2 => k_asm); (case k3 => k_asm); (case k5 => k_asm); (case kK => first | exact rfl | assumption); (case kd => ktr_room); (case ku => ktr_units); intro D9 n9 t9 h9 tk9 F9 N9 l1; (try simp only [List.cons_append, List.nil_append] at N9 l1); (try k_lt l1); (try k_sweep))
    | (refine' RaiseX.use (p229_6 _ _ _ _ ?ka) ?k1 ?k2 ?k3 ?k4 ?k5 ?kK ?kd ?ku ?_; (case k4 => k_dflt assumption); (case ka => omega); (case k1 => k_asm); (case k2 => k_asm); (case k3 => k_asm); (case k5 => k_asm); (case kK => first | exact rfl | assumption); (case kd => ktr_room); (case ku => ktr_units); intro e9 t9 g9 h9 tk9 F9 U9 R9; (try dsimp only))
    | (refine' RaiseX.use (p229_7 _ _ _ _ ?ka) ?k1 ?k2 ?k3 ?k4 ?k5 ?kK ?kd ?ku ?_; (case k4 => k_dflt assumption); (case ka => omega); (case k1 => k_asm); (case k2 => k_asm); (case k3 => k_asm); (case k5 => k_asm); (case kK => first | exact rfl | assumption); (case kd => ktr_room); (case ku => ktr_units); intro e9 t9 g9 h9 tk9 F9 U9 R9; (try dsimp only)))))
  k_with "!call ref" => ((with_reducible show wpAny _ _ (call (Value.ref 72) _) _ _ _); (refine' Pure1.use (tot_c0 _ _ _ ?ka ?kb) ?k1 ?k2 ?k3 ?k4 ?k5 ?kK ?kd ?ku ?_; (case ka => (try simp only [List.length_map] at *); omega); (case kb => assumption); walk_at "MyUse"))
  k_with "!call builtin:list.pop" => ((k_dflt (refine' kl_pop ?F ?N (pop_e _ _) ?U ?z ?_; (case F => k_asm); (case N => k_asm); (case U => k_upd); (case z => (rw [PySem.sizeLine_eq]; simp only [List.length_append, List.length_cons, List.length_nil, List.length_map] at *; omega))); intro h' F' N'; (try dsimp only [List.nil_append, List.cons_append] at N')))
  k_with "!binaryOp Add str str" => ((first
    | (refine add_e (resp257_rep _) (by (rw [rep_len, show (Str.ofString "257 \"").length = 5 by decide +kernel]); omega) ?_; intro _ _; (try dsimp only))
    | (refine add_e (resp257_addx _) (by (rw [resp257_len, List.length_replicate, show (Str.ofString "x").length = 1 by decide +kernel]); omega) ?_; intro _ _; (try dsimp only))
    | (refine add_e (a := Str.ofString "proto ") (b := lineOf 6 _) rfl (by (rw [g8 (by assumption), show (Str.ofString "proto ").length = 6 by decide +kernel]); omega) ?_; intro _ _; (try dsimp only))
    | (refine add_e (a := Str.ofString "reply ") (b := lineOf 7 _) rfl (by (rw [e8 (by assumption), show (Str.ofString "reply ").length = 6 by decide +kernel]); omega) ?_; intro _ _; (try dsimp only))))
  k_with "!subscriptTail Name Slice str ref" => (((with_reducible rename Fr _ _ _ _ => F'); (with_reducible rename News _ _ _ _ => N'); (refine sl_sn (s := ⟨_, _, _, _, _⟩) rfl F' N' (by (have h9 := half_len); (refine Nat.le_trans (h9 _) ?_); omega) ?_; intro _ _ _ _ _; (try dsimp only))))
  k_with "!compareOp Eq str str" => ((refine cmp_e (half_x _ (by omega)) ?_))
  k_with "!call builtin:list.append" => ((k_dflt (refine' app_e ?F ?N ?U ?z ?_; (case F => k_asm); (case N => k_asm); (case U => k_upd); (case z => first | omega | (simp only [List.length_append, List.length_cons, List.length_nil, List.length_map] at *; omega))); intro h' F' N'; (try k_sweep)))
  k_with "!call builtin:len" => (((with_reducible show wpAny _ _ (call (Value.builtin "len") [Value.str _ _]) _ _ _); refine len_e rfl (by omega) ?_; (try dsimp only)))
  k_with "!call type:str" => ((k_dflt (refine' own_strK ?U ?F ?X ?N ?G ?hs ?hm ?_; (case G => assumption); (case N => assumption); (case U => ktr_units); (case F => k_asm); (case X => k_asm); (case hs => k_is); (case hm => k_is)); (try dsimp only)))
  k_with "!ite" => (first
      | ((with_reducible refine beq_no ?h9 ?_); (case h9 => omega))
      | ((with_reducible refine beq_yes ?h9 ?_); (case h9 => omega))
      | ((with_reducible refine dec_no ?h9 ?_); (case h9 => omega))
      | ((with_reducible refine dec_yes ?h9 ?_); (case h9 => omega)))
  k_with "!exec For Name Name cons nil" => (((with_reducible show wpAny _ _ (exec (Stmt.For (PySem.Expr.Name (Str.ofString "line") _) _ _ _ _) _) _ _ _); (k_dflt (refine wpAny_For ?_))))
  k_with "!pyIter ref" => (k_dflt (k_extra "pyIter ref"))
  k_with "pyIter ref" => (
    rename Fr _ _ _ _ => lF'
    rename News _ _ _ (_ :: _ :: _) => lN'
    k_dflt (refine' desk_loop2 (items := items) ?hx ?hc ?hh FG1 hus ?hF ?hN ?turn ?tail ?done ?hE; (case hx => exact rfl); (case hc => exact rfl); (case hh => exact rfl); (case hF => exact lF'); (case hN => exact lN'); (case hE => passes_own))
    all_goals clear lF' lN' FG1 B1 X1 T1
    case' turn =>
      intro g2 rus rn runs bus bn book tl p k v tv u h2 tk2 own Q9 FG1 hat hp9 kO4 hD1 hD2 p1 p2 e1 e2 hW9 F2 N2 hqH
      have B1 := below_on (dp := dp) (un := un) (gd := gd) (a := a) (ccd := ccd) (cl := cl) (cn := cn) B FG1 hk
      have X1 := X.keeps FG1.keep
      have T1 := T.keeps FG1.keep
      have kMark := kstMark
      have kMark2 := kdMark
      try dsimp only
      try k_fold
      rcases way_of hT hat hW9 hD1 with ⟨h6, hv, er, hs, hf⟩ | ⟨h6, hv, er, hs, hf⟩ | ⟨h6, hv, er, hs, hf⟩ | ⟨h6, hv, er, eu, hD9, hs, hx, hf⟩ | ⟨h6, hv, er, eu, hD9, hs, hx, hf⟩ | ⟨h8, h12, hv, er, eu, hD9, hs, hx, hy, hf⟩
      all_goals (clear hW9; (try subst h6); (try subst hv); (try subst eu); subst er; (try (rename 8 ≤ _ => h8; have ht1 := (tok_bound' h8).1; have ht2 := (tok_bound' h8).2)))
    case' tail =>
      intro g2 rus rn G bus bn book tl pre d u h2 tk2 own s9 Q9 FG1 hp9 kSep kO4 hD1 hD2 hs p1 p2 e1 e2 hz9 F2 N2 hqT
      have B1 := below_on (dp := dp) (un := un) (gd := gd) (a := a) (ccd := ccd) (cl := cl) (cn := cn) B FG1 hk
      have X1 := X.keeps FG1.keep
      have T1 := T.keeps FG1.keep
      have kMark := kstMark
      have kMark2 := kdMark
      try dsimp only
      try k_fold
    case' done =>
      intro g2 rus rn runs bus bn tl u h2 tk2 FG1 hD2 F2 N2
      have B1 := below_on (dp := dp) (un := un) (gd := gd) (a := a) (ccd := ccd) (cl := cl) (cn := cn) B FG1 hk
      have X1 := X.keeps FG1.keep
      have T1 := T.keeps FG1.keep
      try dsimp only
      try k_fold)
  k_with "noteFrame ref" => (
    rename RaisedK _ _ _ _ _ _ _ _ => R9
    rename Heap.UpToSlots _ _ => U9
    rename Fr _ _ _ _ => F9
    rename News _ _ _ (_ :: _) => nE9
    k_dflt (refine' land (h₀ := h₀) ?st ?hF ?hU ?hR ?_; (case st => exact rfl); (case hF => exact fr_in FG1 F9); (case hU => exact U9); (case hR => exact R9))
    intro g8 F8 R8 U8
    k_dflt (first
      | (refine' take (bmB := [.type "Exception", .type "BaseException", .type "object"]) (newId := "Exception.__new__") ?hF ?hR X ?T ?ex ?q ?hb ?_; (case hF => exact F8); (case hR => exact R8); (case T => k_asm); (case ex => k_is); (case q => k_exc); (case hb => exact rfl))
      | (refine' skip (bmB := [.type "Exception", .type "BaseException", .type "object"]) (newId := "Exception.__new__") (bmC := [.type "Exception", .type "BaseException", .type "object"]) (newC := "Exception.__new__") (y := Str.ofString "error_reply") ?hF ?hR X ?T ?ex ?q ?hb ?ey ?qC (reply_apart _) ?_; (case hF => exact F8); (case hR => exact R8); (case T => k_asm); (case ex => k_is); (case q => k_exc); (case hb => exact rfl); (case ey => k_is); (case qC => k_exc);
         refine' take (bmB := [.type "Exception", .type "BaseException", .type "object"]) (newId := "Exception.__new__") ?hF ?hR X ?T ?ex ?q ?hb ?_; (case hF => exact F8); (case hR => exact R8); (case T => k_asm); (case ex => k_is); (case q => k_exc); (case hb => exact rfl)))
    intro h7 fresh tk7 F7 N7 G7 O7 D7 S7
    have hg := regrd FG1 F9 nE9 (U9.trans U8) F7 O7 N7 D7 S7
    obtain ⟨g3, FG3, F3, N3, N3'⟩ := hg
    clear B1 X1 T1 FG1 F9 nE9 F8 R8 U8 R9 U9 S7 D7 F7 N7 O7
    rename Fr h₀ L g3 m => FG1
    have B1 := below_on (dp := dp) (un := un) (gd := gd) (a := a) (ccd := ccd) (cl := cl) (cn := cn) B FG1 hk
    have X1 := X.keeps FG1.keep
    have T1 := T.keeps FG1.keep
    try dsimp only
    try k_sweep)
  k_with "pyIter ref" => (k_of "run" => ((k_dat (fun (pre : List Dat) total => total = totD pre) "total"); all_goals (try (obtain ⟨x9, hx9, hl9⟩ : ∃ x, kD = Dat.str x ∧ x.length ≤ 5 := by first | exact shape0 (by assumption) _ kMem); (subst hx9; obtain ⟨t9, hv9⟩ := datin_str kDat; subst hv9; clear kDat)); all_goals (try (rename _ = totD _ => hw9; subst hw9))))
  k_with "state" => first
    | k_dflt (exact (rfl : (1 : Int) = totD []))
    | exact (totD_snoc _ _).symm
    | with_reducible exact rfl
  refine wpAny_call ?_
  refine' enterM ?k1 ?k2 ?k3 ?k4 ?k5 ?kA ?kF ?kK ?k6 ?k7 ?k8 ?k9 ?kB ?_ ?c2 ?c3 ?c4 ?c5
  case kA => exact rfl
  case kF => exact rfl
  case kK => assumption
  case k1 => k_asm
  case k2 => k_asm
  case k3 => k_asm
  case k4 => k_asm
  case k5 => k_asm
  case k6 => k_is
  case k7 => k_is
  case k8 => ktr_room
  case k9 => exact BindsTo.of_eq rfl
  case kB => exact locs rfl
  case c2 => exact rfl
  case c3 => exact rfl
  case c4 => exact rfl
  case c5 => decide
  k_whole
  intro g1 L1 h1 FG1 F1 N1
  have B1 := below_on (dp := dp) (un := un) (gd := gd) (a := a) (ccd := ccd) (cl := cl) (cn := cn) B FG1 hk
  have X1 := X.keeps FG1.keep
  have T1 := T.keeps FG1.keep
  try dsimp only
  try k_fold
  k_steps
  k_with_none
  all_goals first
    | (show Q (Value.ref _) _; (rename News _ _ _ _ => lN'); with_reducible exact desk_done hret FG1 (by assumption) lN' hD2)
    | (rename News _ _ _ (_ :: _) => nE'
       refine' hqT _ (desk_end FG1 kSep ?hF nE' ?hlt ?hn ?hr ?hf hz9)
       case hF => assumption
       case hlt => assumption
       case hn => kcf_all
       case hr => kst_same
       case hf => kd_facts)
    | (rename News _ _ _ (_ :: _) => nE'
       refine' mid_mk hqH FG1 ?hF nE' ?hn ?hr ?hf ?hp
       case hF => assumption
       case hn => kcf_all
       case hr => kst_same
       case hf => kd_facts
       case hp => first
          | with_reducible exact mp_good (by assumption) (by assumption) (by assumption) (by assumption) (by assumption) (by assumption)
          | with_reducible exact mp_six (by assumption) (by assumption) (by assumption) (by assumption)
          | with_reducible exact mp_seven (by assumption) (by assumption) (by assumption) (by assumption)
          | with_reducible exact mp_14 s_empty (by assumption) (by assumption) (by assumption) (by assumption) (by omega)
          | with_reducible exact mp_14 s_quote (by assumption) (by assumption) (by assumption) (by assumption) (by omega)
          | with_reducible exact mp_13 (by assumption) (by assumption) (by assumption) (by assumption) (by assumption)
          | with_reducible exact mp_two (by assumption) (by assumption) (by assumption) (by assumption) (by assumption) (by assumption) (by assumption) (by assumption))
end
end Mine
end
section
open PySem PySem.W PyProof.Rows PySem.Spec PySem.Calls
set_option maxRecDepth 100000
namespace Mine
section
variable {prog : Program} {w : World} {A : Around} {E : Value → Shared → Prop} {s : Shared} {env : Env} {h₀ : Heap} {a b : Str} {pa pb px : Pos} {tk9 : Nat}
abbrev tup2 (x y : Value) (n : Nat) : Obj := { cls := .type "tuple", data := .seq #[x, y] n }
/-- a pair is taken apart into two local names -/
theorem pair_assign {t : Addr} {m : Str → Option Value} {x y : Value} {Q : Unit → Shared → Prop} (hh : A.handled = none) (F : Fr h₀ env.locals s.heap m) (ht : IsTup s.heap t #[x, y])
    (ha : env.kindOf a = some .local) (hb : env.kindOf b = some .local) (hp : (env.scope.kind == .class || (env.scope.kind == .module && env.locals != env.globals)) = false)
    (h : ∀ h' tk, Fr h₀ env.locals h' (fun z => if z = b then some y else if z = a then some x else m z) → (∀ c o, c ≠ env.locals → s.heap.get? c = some o → h'.get? c = some o) → Q () { s with heap := h', toks := tk }) :
    wpAny (model prog w) A (assign (.Tuple [.Name a pa, .Name b pb] tk9 px) env (.ref t)) Q E s := by
  refine assign_Tuple_tuple hh ht rfl rfl fun h1 he1 => ?_
  have F1 := F.extBut he1 (Nat.le_refl _)
  show wpAny _ _ (assignInOrder [assign (.Name a pa) env, assign (.Name b pb) env] [x, y]) _ _ _
  refine assignInOrder_cons (wpAny_assign_Name (wpAny_storeName_local ha F1.ns (fun h2 hn2 hs2 => ?_) hp))
  have F2 := F1.set hn2 hs2
  refine assignInOrder_cons (wpAny_assign_Name (wpAny_storeName_local hb F2.ns (fun h3 hn3 hs3 => assignInOrder_nil ?_) hp))
  exact h h3 _ (F2.set hn3 hs3) fun c o hc e => (hs3.2 c hc).trans ((hs2.2 c hc).trans (he1 c o (Nat.ne_of_lt (Heap.lt_size e)) e))
variable {body : List Stmt} {Q : Flow → Shared → Prop}
/-- a loop over a list of pairs of the ledger -/
theorem pair_iter {l : Addr} {m₀ : Str → Option Value} {vs : List Value} {nn : Nat} {news : List (Addr × Obj)} (J : Nat → (Str → Option Value) → List (Addr × Obj) → Prop)
    (ha : env.kindOf a = some .local) (hb : env.kindOf b = some .local) (hp : (env.scope.kind == .class || (env.scope.kind == .module && env.locals != env.globals)) = false)
    (hh : A.handled = none) (hl : (l, listOf vs.toArray nn) ∈ news) (F : Fr h₀ env.locals s.heap m₀) (N : News h₀ env.locals s.heap news) (hj : J 0 m₀ news)
    (tup : ∀ i v m₁ nx, vs[i]? = some v → J i m₁ nx → ∃ t x y n, v = .ref t ∧ (t, tup2 x y n) ∈ nx)
    (turn : ∀ i t x y n m₁ nx h tk own, vs[i]? = some (.ref t) → (t, tup2 x y n) ∈ nx → OwnOff own (nx.map (·.1)) → (l, listOf vs.toArray nn) ∈ nx → J i m₁ nx →
      Fr h₀ env.locals h (fun z => if z = b then some y else if z = a then some x else m₁ z) → News h₀ env.locals h (nx ++ own) →
      wpAny (model prog w) A (execs body env) (InvPostG h₀ env.locals (fun m' nx => (l, listOf vs.toArray nn) ∈ nx ∧ J (i + 1) m' nx) own { s with heap := h, toks := tk } Q) E { s with heap := h, toks := tk })
    (done : ∀ m₁ nx h tk, J vs.length m₁ nx → Fr h₀ env.locals h m₁ → News h₀ env.locals h nx → Q .next { s with heap := h, toks := tk })
    (hE : PassesOwn (model prog w) A env E := by passes_own) :
    wpAny (model prog w) A (pyIter (.ref l)) (fun it s₂ => codeAny (model prog w) A (.forLoop (.Tuple [.Name a pa, .Name b pb] tk9 px) it body [] env) (fun r s' => match r with | .ok f => Q f s' | .error e => cameBackBy (model prog w) A env E e s') s₂) E s := by
  have hol : s.heap.get? l = some (listOf vs.toArray nn) := (N _ hl).1
  refine wpAny_pyIter_list ⟨_, hol, rfl, nn, rfl⟩ ?_
  have W := Walks.list (prog := prog) (w := w) hh s.heap.objs.size l (Nat.ne_of_lt (Heap.lt_size hol)) vs.toArray
  have hit : (s.heap.push { cls := .type "list_iterator", data := .fields #[.ref l, .int 0 0] }).IsListIter s.heap.objs.size l 0 := ⟨_, Heap.get?_push_size _ rfl, rfl, rfl⟩
  have F1 := F.push (o := { cls := .type "list_iterator", data := .fields #[.ref l, .int 0 0] })
  have N1 : News h₀ env.locals (s.heap.push { cls := .type "list_iterator", data := .fields #[.ref l, .int 0 0] }) news := fun p hp => ⟨Heap.get?_push_of_some _ (N p hp).1, (N p hp).2⟩
  have hIL : s.heap.objs.size ≠ env.locals := fun z => absurd F.ns.lt (by rw [← z]; exact Nat.lt_irrefl _)
  have hIg : h₀.get? s.heap.objs.size = none := next_is_new F
  have hIn : ∀ p ∈ news, p.1 ≠ s.heap.objs.size := fun p hp => Nat.ne_of_lt (Heap.lt_size (N p hp).1)
  generalize s.heap.push { cls := .type "list_iterator", data := .fields #[.ref l, .int 0 0] } = hs at hit F1 N1
  generalize s.heap.objs.size = I at W hIL hIg hIn hit
  have hlen : vs.toArray.size = vs.length := by simp
  rw [hlen] at W
  refine codeAny_forLoop_any
    (fun k s' => ∃ h' tk m' nx i, s' = { s with heap := h', toks := tk } ∧ Fr h₀ env.locals h' m' ∧ News h₀ env.locals h' nx ∧ h'.IsListIter I l i ∧ (∀ p ∈ nx, p.1 ≠ I) ∧ (l, listOf vs.toArray nn) ∈ nx ∧ J i m' nx ∧ i ≤ vs.length ∧ k = vs.length + 1 - i) ?_ (vs.length + 1)
    ⟨hs, s.toks, m₀, news, 0, rfl, F1, N1, hit, hIn, hl, hj, Nat.zero_le _, rfl⟩
  rintro k s' ⟨h', tk, m', nx, i, rfl, F2, N2, it2, in2, l2, j2, le2, rfl⟩
  have isl : h'.IsList l vs.toArray := ⟨_, (N2 _ l2).1, rfl, nn, rfl⟩
  have next : ∀ h₁ : Heap, (∀ b o, b ∉ [I] → h'.get? b = some o → h₁.get? b = some o) → Fr h₀ env.locals h₁ m' ∧ News h₀ env.locals h₁ nx := fun h₁ hk =>
    ⟨⟨F2.ns.at' fun o e => hk _ o (fun z => hIL (List.mem_singleton.mp z).symm) e, fun b o e => hk b o (fun z => by rw [List.mem_singleton.mp z, hIg] at e; cases e) (F2.keep b o e), F2.above⟩,
      fun p hp => ⟨hk _ _ (fun z => in2 p hp (List.mem_singleton.mp z)) (N2 p hp).1, (N2 p hp).2⟩⟩
  by_cases hlt : i < vs.length
  · refine W.item i _ _ _ hlt ⟨it2, isl⟩ fun v h₁ tk₁ hP hst₁ hk₁ => ?_
    obtain ⟨F3, N3⟩ := next h₁ hk₁
    have hv : vs[i]? = some v := by simpa using hP
    obtain ⟨t, x, y, n, rfl, hm⟩ := tup i v m' nx hv j2
    refine wpAny_letOwnedTupleGo_listiter hst₁.1 ?_
    refine pair_assign hh F3 ⟨_, (N3 _ hm).1, rfl, n, rfl⟩ ha hb hp fun h₂ tk₂ F4 keep4 => ?_
    have it4 : h₂.IsListIter I l (i + 1) := hst₁.1.at fun o e => keep4 _ _ hIL e
    obtain ⟨oI, hoI, _⟩ := id it4
    have N4 : News h₀ env.locals h₂ (nx ++ [(I, oI)]) := fun p hp => (List.mem_append.mp hp).elim (fun z => ⟨keep4 _ _ (N3 p z).2.1 (N3 p z).1, (N3 p z).2⟩) fun z => by
      rw [List.mem_singleton.mp z]
      exact ⟨hoI, hIL, hIg⟩
    have hoff : OwnOff [(I, oI)] (nx.map (·.1)) := fun p hp b hb z => by
      obtain ⟨q, hq, rfl⟩ := List.mem_map.mp hb
      rw [List.mem_singleton.mp hp] at z
      exact in2 q hq z.symm
    refine wpAny_passesOwn hE (wpAny_mono (turn i t x y n m' nx h₂ _ [(I, oI)] hv hm hoff l2 j2 F4 N4) (fun f s₃ h₃ => ?_) fun _ _ e => e)
    have fin : InvEndG h₀ env.locals (fun m' nx => (l, listOf vs.toArray nn) ∈ nx ∧ J (i + 1) m' nx) [(I, oI)] { s with heap := h₂, toks := tk₂ } s₃ →
        ∃ k, k < vs.length + 1 - i ∧ ∃ h' tk m' nx i, s₃ = { s with heap := h', toks := tk } ∧ Fr h₀ env.locals h' m' ∧ News h₀ env.locals h' nx ∧ h'.IsListIter I l i ∧ (∀ p ∈ nx, p.1 ≠ I) ∧ (l, listOf vs.toArray nn) ∈ nx ∧ J i m' nx ∧ i ≤ vs.length ∧ k = vs.length + 1 - i := by
      rintro ⟨h5, tk5, m5, news5, nx5, e5, F5, N5, hn5, ho5, ha5, l5, j5⟩
      have own5 := N5 _ (ho5 _ (.head _))
      exact ⟨vs.length + 1 - (i + 1), by omega, h5, tk5, m5, nx5, i + 1, e5, F5, fun p hp => N5 p (hn5 p hp), it4.at fun o e => by rw [hoI] at e; cases e; exact own5.1,
        fun p hp z => ha5 _ (.head _) p.1 (List.mem_map.mpr ⟨p, hp, rfl⟩) z.symm, l5, j5, hlt, rfl⟩
    cases f with
    | ret v => exact h₃
    | brk => exact h₃
    | next => exact fin h₃
    | cont => exact fin h₃
  · have hin : i = vs.length := by omega
    subst hin
    refine W.done _ _ _ ⟨it2, isl⟩ fun h₁ tk₁ hk₁ => wpAny_execs_nil ?_
    obtain ⟨F3, N3⟩ := next h₁ hk₁
    exact done m' nx h₁ tk₁ j2 F3 N3
end
theorem item_in {L : List (Addr × Obj)} {v : Value} {p : Nat × Nat} (h : DatIn L v (itemDat p)) : ∃ t tk tv n, v = .ref t ∧ (t, tup2 (.int (p.1 : Int) tk) (.int (p.2 : Int) tv) n) ∈ L := by
  unfold itemDat at h
  cases h with
  | tuple hm hd =>
    rcases hd with _ | ⟨h1, hd⟩
    rcases hd with _ | ⟨h2, hd⟩
    cases hd
    cases h1
    cases h2
    exact ⟨_, _, _, _, rfl, hm⟩
/-- what the plain loop knows -/
structure WPlain (items : List (Nat × Nat)) (p : Nat) (held : List Int) (book : List Dat) : Prop where
  held : held = (deskF (items.take p)).1.map fun (n : Nat) => (n : Int)
  book : book = (deskF (items.take p)).2
theorem WPlain.start (items : List (Nat × Nat)) : WPlain items 0 [] [] := ⟨rfl, rfl⟩
abbrev plainNames : List Str := [Str.ofString "value", Str.ofString "top", Str.ofString "below", Str.ofString "lesser", Str.ofString "unlike"]
abbrev Plain2 : Type := (List Value × Nat × List Int) × (List Value × Nat × List Dat)
abbrev PlainSt (items : List (Nat × Nat)) (H Bk : Addr) (cst : List (Addr × Obj)) (m₀ : Str → Option Value) (adr : List Addr) (pre : List Dat) (m : Str → Option Value) (nx : List (Addr × Obj)) : Prop :=
  KdS (σ := Plain2) (fun c => [(Bk, listOf c.2.1.toArray c.2.2.1), (H, listOf c.1.1.toArray c.1.2.1)]) cst (fun _ => []) (fun nx c => IntsAre c.1.1 c.1.2.2 ∧ DatAll nx c.2.1 c.2.2.2) (Str.ofString "kind") plainNames m₀
    (fun pre c => c.1.2.2.length ≤ pre.length ∧ c.2.2.2.length ≤ 3 * pre.length ∧ WPlain items pre.length c.1.2.2 c.2.2.2) adr pre m nx
theorem item_at {items : List (Nat × Nat)} {i : Nat} {d : Dat} (e : (items.map itemDat)[i]? = some d) : ∃ k v, items[i]? = some (k, v) ∧ d = itemDat (k, v) := by
  rw [List.getElem?_map] at e
  cases h2 : items[i]? with
  | none => rw [h2] at e; cases e
  | some p =>
    rw [h2] at e
    obtain ⟨k, v⟩ := p
    exact ⟨k, v, rfl, by simpa using e.symm⟩
section
variable {prog : Program} {w : World} {A : Around} {E : Value → Shared → Prop} {s : Shared} {env : Env} {h₀ : Heap} {body : List Stmt} {Q : Flow → Shared → Prop} {pa pb px : Pos} {tk9 : Nat}
theorem plain_loop {l H Bk : Addr} {m₀ : Str → Option Value} {us : List Value} {n hn0 bn0 : Nat} {news : List (Addr × Obj)} {items : List (Nat × Nat)}
    (ha : env.kindOf (Str.ofString "kind") = some .local) (hb : env.kindOf (Str.ofString "value") = some .local) (hc : (env.scope.kind == .class || (env.scope.kind == .module && env.locals != env.globals)) = false) (hh : A.handled = none)
    (hus : DatAll news us (items.map itemDat)) (F : Fr h₀ env.locals s.heap m₀) (N : News h₀ env.locals s.heap ((Bk, listOf [].toArray bn0) :: (H, listOf [].toArray hn0) :: (l, listOf us.toArray n) :: news))
    (turn : ∀ (hus : List Value) (hn : Nat) (held : List Int) (bus : List Value) (bn : Nat) (book : List Dat) (tl : List (Addr × Obj)) (pre : List Dat) (k v len : Nat) (tk tv : Tok) (u : Str → Option Value) (h : Heap) (tk' : Nat) (own : List (Addr × Obj)),
      items[pre.length]? = some (k, v) → items.length = pre.length + len + 1 → KdSep own tl (Bk :: H :: l :: news.map (·.1)) → OwnOff (tl ++ own) (Bk :: H :: l :: news.map (·.1)) →
      IntsAre hus held → DatAll (((l, listOf us.toArray n) :: news) ++ tl) bus book → held.length ≤ pre.length → book.length ≤ 3 * pre.length → hus.length = held.length → bus.length = book.length → WPlain items pre.length held book →
      Fr h₀ env.locals h (fun y => if y = Str.ofString "value" then some (.int (v : Int) tv) else if y = Str.ofString "kind" then some (.int (k : Int) tk) else if plainNames.contains y then u y else m₀ y) →
      News h₀ env.locals h ((Bk, listOf bus.toArray bn) :: (H, listOf hus.toArray hn) :: (l, listOf us.toArray n) :: (news ++ (tl ++ own))) →
      wpAny (model prog w) A (execs body env) (InvPostG h₀ env.locals (PlainSt items H Bk ((l, listOf us.toArray n) :: news) m₀ (Bk :: H :: l :: news.map (·.1)) (pre ++ [itemDat (k, v)])) own { s with heap := h, toks := tk' } Q) E { s with heap := h, toks := tk' })
    (done : ∀ (hus : List Value) (hn : Nat) (bus : List Value) (bn : Nat) (tl : List (Addr × Obj)) (u : Str → Option Value) (h : Heap) (tk : Nat),
      DatAll (((l, listOf us.toArray n) :: news) ++ tl) bus (deskF items).2 →
      Fr h₀ env.locals h (fun y => if y = Str.ofString "kind" then u y else if plainNames.contains y then u y else m₀ y) →
      News h₀ env.locals h ((Bk, listOf bus.toArray bn) :: (H, listOf hus.toArray hn) :: (l, listOf us.toArray n) :: (news ++ tl)) → Q .next { s with heap := h, toks := tk })
    (hE : PassesOwn (model prog w) A env E := by passes_own) :
    wpAny (model prog w) A (pyIter (.ref l)) (fun it s₂ => codeAny (model prog w) A (.forLoop (.Tuple [.Name (Str.ofString "kind") pa, .Name (Str.ofString "value") pb] tk9 px) it body [] env) (fun r s' => match r with | .ok f => Q f s' | .error e => cameBackBy (model prog w) A env E e s') s₂) E s := by
  have len := hus.length
  rw [List.length_map] at len
  refine pair_iter (fun i m nx => PlainSt items H Bk ((l, listOf us.toArray n) :: news) m₀ (Bk :: H :: l :: news.map (·.1)) ((items.map itemDat).take i) m nx) ha hb hc hh (.tail _ (.tail _ (.head _))) F N ?_ ?_ ?_ ?_ hE
  · exact ⟨(([], hn0, []), [], bn0, []), [], by simp, (fun p (z : p ∈ ([] : List (Addr × Obj))) => nomatch z), ⟨.nil, .nil⟩, (fun p (z : p ∈ ([] : List (Str × Value))) => nomatch z), fun _ _ _ _ => rfl, Nat.le_refl _, Nat.le_refl _, WPlain.start items⟩
  · rintro i v m₁ nx hv ⟨c, tl, rfl, _⟩
    have hi : i < (items.map itemDat).length := by rw [List.length_map, ← len]; exact (List.getElem?_eq_some_iff.mp hv).1
    obtain ⟨v', a, b⟩ := hus.get hi
    rw [hv] at a
    cases a
    obtain ⟨k, v2, _, e⟩ := item_at (List.getElem?_eq_getElem hi)
    rw [e] at b
    obtain ⟨t, tk, tv, n, e1, e2⟩ := item_in b
    exact ⟨t, _, _, n, e1, List.mem_append_right _ (List.mem_append_left _ (.tail _ e2))⟩
  · rintro i t x y n9 m₁ nx h tk own hv hm hoff l2 ⟨⟨⟨hus9, hn, held⟩, bus, bn, book⟩, tl, rfl, e2, ⟨e3, e3'⟩, e4, e5, q1, q2, q3⟩ F1 N1
    have hi : i < (items.map itemDat).length := by rw [List.length_map, ← len]; exact (List.getElem?_eq_some_iff.mp hv).1
    obtain ⟨v', a, b⟩ := hus.get hi
    rw [hv] at a
    cases a
    obtain ⟨k, v, hat, e⟩ := item_at (List.getElem?_eq_getElem hi)
    rw [e] at b
    obtain ⟨t', tk9, tv9, n', e1, hm'⟩ := item_in b
    cases e1
    have both : tup2 x y n9 = tup2 (.int (k : Int) tk9) (.int (v : Int) tv9) n' := by
      have z1 := (N1 _ (List.mem_append_left _ hm)).1
      have z2 := (N1 (t, tup2 (.int (k : Int) tk9) (.int (v : Int) tv9) n') (List.mem_append_left _ (List.mem_append_right _ (List.mem_append_left _ (.tail _ hm'))))).1
      rw [z1] at z2
      exact Option.some.inj z2
    obtain ⟨rfl, rfl⟩ : x = .int (k : Int) tk9 ∧ y = .int (v : Int) tv9 := by
      simp only [tup2, Obj.mk.injEq, Data.seq.injEq] at both
      have := both.2.2.1.1
      simpa using this
    have hup : (items.map itemDat).take (i + 1) = (items.map itemDat).take i ++ [itemDat (k, v)] := by rw [← List.take_append_getElem hi, e]
    have hl : ((items.map itemDat).take i).length = i := by rw [List.length_take]; omega
    rw [List.length_map] at hi
    obtain ⟨o1, o2⟩ := kd_split (Led := [(Bk, listOf bus.toArray bn), (H, listOf hus9.toArray hn)]) (cst := (l, listOf us.toArray n) :: news) (adr := Bk :: H :: l :: news.map (·.1)) (tl := tl) rfl hoff
    have N2 : News h₀ env.locals h ((Bk, listOf bus.toArray bn) :: (H, listOf hus9.toArray hn) :: (l, listOf us.toArray n) :: (news ++ (tl ++ own))) := by simpa using N1
    have F2 : Fr h₀ env.locals h (fun y => if y = Str.ofString "value" then some (.int (v : Int) tv9) else if y = Str.ofString "kind" then some (.int (k : Int) tk9) else if plainNames.contains y then m₁ y else m₀ y) := by
      refine Eq.mp (congrArg (Fr h₀ env.locals h) (funext fun z => ?_)) F1
      by_cases z1 : z = Str.ofString "value"
      · rw [if_pos z1, if_pos z1]
      · rw [if_neg z1, if_neg z1]
        by_cases z2 : z = Str.ofString "kind"
        · rw [if_pos z2, if_pos z2]
        · rw [if_neg z2, if_neg z2]
          cases z3 : plainNames.contains z with
          | true => simp
          | false => simp only [Bool.false_eq_true, if_false]; exact e5 z z2 (fun p (z : p ∈ ([] : List (Str × Value))) => nomatch z) z3
    refine wpAny_mono (turn hus9 hn held bus bn book tl ((items.map itemDat).take i) k v (items.length - i - 1) tk9 tv9 m₁ h tk own (by rw [hl]; exact hat) (by rw [hl]; omega) ⟨o1, o2, e2⟩ (kd_off o1 e2) e3 e3' q1 q2 e3.length e3'.length q3 F2 N2) (fun f s₂ z => ?_) fun _ _ z => z
    have back : InvEndG h₀ env.locals (PlainSt items H Bk ((l, listOf us.toArray n) :: news) m₀ (Bk :: H :: l :: news.map (·.1)) ((items.map itemDat).take i ++ [itemDat (k, v)])) own { s with heap := h, toks := tk } s₂ →
        InvEndG h₀ env.locals (fun m' nx => (l, listOf us.toArray n) ∈ nx ∧ PlainSt items H Bk ((l, listOf us.toArray n) :: news) m₀ (Bk :: H :: l :: news.map (·.1)) ((items.map itemDat).take (i + 1)) m' nx) own { s with heap := h, toks := tk } s₂ := by
      rintro ⟨h2, tk2, m2, nw, nx2, a1, a2, a3, a4, a5, a6, a7⟩
      refine ⟨h2, tk2, m2, nw, nx2, a1, a2, a3, a4, a5, a6, ?_, by rw [hup]; exact a7⟩
      obtain ⟨c2, tl2, z, _⟩ := a7
      rw [z]
      simp
    cases f with
    | ret v => exact z
    | brk => exact z
    | next => exact back z
    | cont => exact back z
  · rintro m₁ nx h tk ⟨⟨⟨hus9, hn, held⟩, bus, bn, book⟩, tl, rfl, e2, ⟨e3, e3'⟩, e4, e5, q1, q2, q3⟩ F1 N1
    have e := q3.book
    rw [List.length_take, List.length_map, len, Nat.min_self, List.take_length] at e
    subst e
    refine done hus9 hn bus bn tl m₁ h tk e3' ?_ (by simpa using N1)
    exact kst_frOut (ps := []) e4 e5 F1
end
end Mine
end
section
open PySem PySem.W PyProof.Rows PySem.Spec PySem.Calls
set_option maxRecDepth 100000
namespace Mine
open LCg
theorem ints_snoc : ∀ {us : List Value} {ns : List Int} {n : Int}, IntsAre us (ns ++ [n]) → ∃ ws t, us = ws ++ [.int n t] ∧ IntsAre ws ns
  | _, [], _, h => by
    obtain ⟨t, vs, rfl, h2⟩ := IntsAre.cons_inv h
    cases h2
    exact ⟨[], t, rfl, .nil⟩
  | _, m :: ns, n, h => by
    obtain ⟨t, vs, rfl, h2⟩ := IntsAre.cons_inv h
    obtain ⟨ws, u, rfl, h3⟩ := ints_snoc h2
    exact ⟨.int m t :: ws, u, rfl, .cons m t h3⟩
theorem ints_add {us : List Value} {ns : List Int} {n : Int} {t : Tok} (h : IntsAre us ns) : IntsAre (us ++ [.int n t]) (ns ++ [n]) := IntsAre.append h (.cons n t .nil)
noncomputable def nums (H : List Nat) : List Int := H.map fun (n : Nat) => (n : Int)
theorem ints_len (H : List Nat) : (nums H).length = H.length := by simp [nums]
theorem ints_app (H : List Nat) (x : Nat) : nums (H ++ [x]) = nums H ++ [(x : Int)] := by simp [nums]
/-- the plain turn's ways -/
inductive PWay (items : List (Nat × Nat)) (p k v : Nat) (us : List Value) (held : List Int) (book : List Dat) : Prop
  | good {H : List Nat} : k < 6 → v ≤ 5 → held = nums H → (∀ x ∈ H, x ≤ 5) → deskF (items.take p) = (H, book) → PWay items p k v us held book
  | six {H : List Nat} : k = 6 → v ≤ 5 → held = nums H → (∀ x ∈ H, x ≤ 5) → deskF (items.take p) = (H, book) → PWay items p k v us held book
  | seven {H : List Nat} : k = 7 → v ≤ 5 → held = nums H → (∀ x ∈ H, x ≤ 5) → deskF (items.take p) = (H, book) → PWay items p k v us held book
  | one13 {ws : List Value} {H : List Nat} {x : Nat} {t : Tok} : k = 13 → v = 0 → held = nums H ++ [(x : Int)] → us = ws ++ [.int (x : Int) t] → IntsAre ws (nums H) → (∀ x ∈ H, x ≤ 5) → x ≤ 5 → deskF (items.take p) = (H ++ [x], book) → PWay items p k v us held book
  | one14 {ws : List Value} {H : List Nat} {x : Nat} {t : Tok} : k = 14 → v = 0 → held = nums H ++ [(x : Int)] → us = ws ++ [.int (x : Int) t] → IntsAre ws (nums H) → (∀ x ∈ H, x ≤ 5) → x ≤ 5 → deskF (items.take p) = (H ++ [x], book) → PWay items p k v us held book
  | two {ws : List Value} {H : List Nat} {x y : Nat} {t u : Tok} : 8 ≤ k → k ≤ 12 → v = 0 → held = (nums H ++ [(x : Int)]) ++ [(y : Int)] → us = (ws ++ [.int (x : Int) t]) ++ [.int (y : Int) u] → IntsAre ws (nums H) → (∀ x ∈ H, x ≤ 5) → x ≤ 5 → y ≤ 5 → deskF (items.take p) = ((H ++ [x]) ++ [y], book) → PWay items p k v us held book
theorem pway_of {items : List (Nat × Nat)} {e p k v : Nat} {us : List Value} {held : List Int} {book : List Dat} (T : Talk 0 items e) (hn : items[p]? = some (k, v)) (W : WPlain items p held book) (hD : IntsAre us held) : PWay items p k v us held book := by
  obtain ⟨rfl, rfl⟩ := W
  have hp : p < items.length := (List.getElem?_eq_some_iff.mp hn).1
  have T' := talk_at (n := p) (st := ([], [])) T rfl (by omega)
  have hd : items.drop p = (k, v) :: items.drop (p + 1) := by
    rw [List.drop_eq_getElem_cons hp]
    congr 1
    exact (List.getElem?_eq_some_iff.mp hn).2
  have hs := held_small T p
  rw [hd] at T'
  change Talk (deskF (items.take p)).1.length _ _ at T'
  have hpair : deskF (items.take p) = ((deskF (items.take p)).1, (deskF (items.take p)).2) := rfl
  change IntsAre us (nums (deskF (items.take p)).1) at hD
  change PWay items p k v us (nums (deskF (items.take p)).1) (deskF (items.take p)).2
  generalize (deskF (items.take p)).1 = held at T' hD hs hpair ⊢
  generalize (deskF (items.take p)).2 = book at hpair ⊢
  generalize hh : held.length = n at T'
  cases T' with
  | held h1 h2 _ => exact .good h1 h2 rfl hs hpair
  | bad h1 h2 _ =>
    rcases h1 with h1 | h1
    · exact .six h1 h2 rfl hs hpair
    · exact .seven h1 h2 rfl hs hpair
  | one h1 _ =>
    obtain ⟨H, x, rfl⟩ := last_of (l := held) (by omega)
    rw [ints_app] at hD ⊢
    obtain ⟨ws, t, e1, e2⟩ := ints_snoc hD
    have hH : ∀ y ∈ H, y ≤ 5 := fun y hy => hs y (List.mem_append_left _ hy)
    have hx : x ≤ 5 := hs x (by simp)
    rcases h1 with h1 | h1
    · exact .one13 h1 rfl rfl e1 e2 hH hx hpair
    · exact .one14 h1 rfl rfl e1 e2 hH hx hpair
  | two h1 h2 _ =>
    obtain ⟨G, y, rfl⟩ := last_of (l := held) (by omega)
    obtain ⟨H, x, rfl⟩ := last_of (l := G) (by simp at hh; omega)
    rw [ints_app, ints_app] at hD ⊢
    obtain ⟨ws, t, e1, e2⟩ := ints_snoc hD
    obtain ⟨ws', t', e3, e4⟩ := ints_snoc e2
    subst e3
    have hH : ∀ y ∈ H, y ≤ 5 := fun y hy => hs y (List.mem_append_left _ (List.mem_append_left _ hy))
    exact .two h1 h2 rfl rfl e1 e4 hH (hs x (by simp)) (hs y (by simp)) hpair
/-- a turn's end -/
theorem pl_end {items : List (Nat × Nat)} {pre : List Dat} {d : Dat} {k v : Nat} {H : List Nat} {book book' : List Dat} {held' : List Int} {G : List Nat} (hat : items[pre.length]? = some (k, v)) (hd : deskF (items.take pre.length) = (H, book)) (hl : H.length ≤ pre.length) (hb : book.length ≤ 3 * pre.length)
    (hG : pops k v H = G) (hr : held' = nums G) (hk : book' = book ++ said k v book.length ++ tailD G) (hp : G.length ≤ H.length + 1) (hs : (said k v book.length).length ≤ 1) :
    held'.length ≤ (pre ++ [d]).length ∧ book'.length ≤ 3 * (pre ++ [d]).length ∧ WPlain items (pre ++ [d]).length held' book' := by
  have e := desk_next hat hd
  have el : (pre ++ [d]).length = pre.length + 1 := by simp
  rw [el]
  subst hG
  refine ⟨by rw [hr, ints_len]; omega, by rw [hk]; simp [tailD]; omega, ⟨?_, ?_⟩⟩
  · rw [e]; exact hr
  · rw [e]; exact hk
theorem carried_dat {L : List (Addr × Obj)} : ∀ {G : List Nat} {ys : List Value}, CarriedAll ys ((nums G).map fun k => PyData.str (rep 34 k.toNat)) → DatAll L ys (G.map runDat)
  | [], _, h => by cases h; exact .nil
  | x :: G, _, h => by
    cases h with
    | cons h1 h2 =>
      cases h1
      exact .cons (.str _ _) (carried_dat h2)
theorem ints_lets (G : List Nat) : (((66 : Int) :: (nums G).map fun k => 65 + k).map fun n => n.toNat.toUInt8).toArray = lets G := by
  unfold lets nums
  rw [List.map_cons, List.map_map, List.map_map]
  congr 2
section
variable {prog : Program} {w : World} {A : Around} {E : Value → Shared → Prop} {s : Shared} {h₀ : Heap} {L : Addr} {m : Str → Option Value} {env : Env} {news : List (Addr × Obj)} {Q : Value → Shared → Prop}
variable {elt : PySem.Expr} {x : Str} {scope : Scope} {cl : List (Str × Addr)} {S : List (Addr × Obj) → Prop} {Fin : List Value → List (Addr × Obj) → Prop}
/-- texts over small nums of a list -/
theorem comp_runs {us : List Value} {G : List Nat} (hi : IntsAre us (nums G)) (hG : ∀ x ∈ G, x ≤ 5)
    (turn : ∀ (k : Nat) t I oI C oC D m₂ ys h tk (E' : Value → Shared → Prop), k ≤ 5 → LCg.NsObj oC m₂ → m₂ x = some (.int (k : Int) t) → Fr h₀ L h m → News h₀ L h ((I, oI) :: (C, oC) :: (D, LCg.lst ys) :: news) → LCg.Off3 I C D news → ((@Ne Nat I C) ∧ (@Ne Nat I D) ∧ (@Ne Nat C D)) → KPfMark →
      wpAny (model prog w) A (eval elt (compEnvC scope cl C env)) (LCg.CompEnd h₀ L m { s with heap := h, toks := tk } I oI C oC D (LCg.lst ys) S (fun y news' => KCtEl news (rep 34 k) y news')) E' { s with heap := h, toks := tk })
    (fin : ∀ ys, (∀ L9, DatAll L9 ys (G.map runDat)) → Fin ys news) : LCg.CompRest prog w A h₀ L m env elt x scope cl s S (fun i v => us.toArray[i]? = some v) Fin us.toArray.size 0 [] news :=
  kct_list (fun k => rep 34 k.toNat) hi (fun k t I oI C oC D m₂ ys h tk E' hk hC hx F N off ne mk => by
    obtain ⟨n, hn, rfl⟩ := List.mem_map.mp hk
    exact turn n t I oI C oC D m₂ ys h tk E' (hG n hn) hC hx F N off ne mk) (fun ys hc _ => fin ys fun L9 => carried_dat hc)
theorem comp_lets {us : List Value} {G : List Nat} (hi : IntsAre us (nums G)) (hG : ∀ x ∈ G, x ≤ 5)
    (turn : ∀ (k : Nat) t I oI C oC D m₂ ys h tk (E' : Value → Shared → Prop), k ≤ 5 → LCg.NsObj oC m₂ → m₂ x = some (.int (k : Int) t) → Fr h₀ L h m → News h₀ L h ((I, oI) :: (C, oC) :: (D, LCg.lst ys) :: news) → LCg.Off3 I C D news → ((@Ne Nat I C) ∧ (@Ne Nat I D) ∧ (@Ne Nat C D)) → KPfMark →
      wpAny (model prog w) A (eval elt (compEnvC scope cl C env)) (LCg.CompEnd h₀ L m { s with heap := h, toks := tk } I oI C oC D (LCg.lst ys) S (fun y news' => KCfEl news (65 + (k : Int)) y news')) E' { s with heap := h, toks := tk })
    (fin : ∀ ys, IntsAre ys ((nums G).map fun k => 65 + k) → Fin ys news) : LCg.CompRest prog w A h₀ L m env elt x scope cl s S (fun i v => us.toArray[i]? = some v) Fin us.toArray.size 0 [] news :=
  kcf_list (fun k => 65 + k) hi (fun k t I oI C oC D m₂ ys h tk E' hk hC hx F N off ne mk => by
    obtain ⟨n, hn, rfl⟩ := List.mem_map.mp hk
    exact turn n t I oI C oC D m₂ ys h tk E' (hG n hn) hC hx F N off ne mk) (fun ys hc => fin ys hc)
theorem ce_int {I C D : Addr} {s₁ : Shared} {oI oC oD : Obj} {S : List (Addr × Obj) → Prop} {r : Int} {t : Tok} {h' : Heap} {tk : Nat} {all : List (Addr × Obj)}
    (F : Fr h₀ L h' m) (N : News h₀ L h' all) (sub : ∀ p ∈ (I, oI) :: (C, oC) :: (D, oD) :: news, p ∈ all) (off : Off3 I C D news) (hS : S news) :
    CompEnd h₀ L m s₁ I oI C oC D oD S (fun y news' => KCfEl news r y news') (.int r t) { s₁ with heap := h', toks := tk } := CompEnd.intro F N news sub off hS (kcf_el rfl rfl rfl)
/-- [66] + letters -/
theorem add66 {a b : Addr} {n1 n2 : Nat} {t : Tok} {ws : List Value} {G : List Nat} (F : Fr h₀ L s.heap m) (N : News h₀ L s.heap news) (ha : (a, listOf #[.int 66 t] n1) ∈ news) (hb : (b, listOf ws.toArray n2) ∈ news) (hj : IntsAre ws ((nums G).map fun k => 65 + k)) (hz : G.length ≤ 1000)
    (h : ∀ D us h', Fr h₀ L h' m → News h₀ L h' ((D, listOf (List.toArray us) 0) :: news) → (∀ p ∈ news, p.1 < D) → IntsAre us ((66 : Int) :: (nums G).map fun k => 65 + k) → Q (.ref D) { s with heap := h' }) :
    wpAny (model prog w) A (binaryOp .Add (.ref a) (.ref b)) Q E s :=
  kmk_add_ints (vs := [.int 66 t]) F N ⟨_, (N _ ha).1, rfl, n1, rfl⟩ ⟨_, (N _ hb).1, rfl, n2, rfl⟩ (.cons 66 t .nil) hj (fun D us h' F' N' l hi => h D us h' F' N' l hi) (by simp only [List.length_map, ints_len, List.length_singleton]; rw [PySem.sizeLine_eq]; omega)
theorem bytes66 {l : Addr} {n : Nat} {us : List Value} {G : List Nat} (F : Fr h₀ L s.heap m) (N : News h₀ L s.heap news) (hl : (l, listOf us.toArray n) ∈ news) (hi : IntsAre us ((66 : Int) :: (nums G).map fun k => 65 + k)) (hG : ∀ x ∈ G, x ≤ 5) (hz : G.length ≤ 1000) (hh : A.handled = none)
    (h : ∀ h' t k, Fr h₀ L h' m → News h₀ L h' news → Q (.bytes (lets G) t) { s with heap := h', toks := k }) : wpAny (model prog w) A (call (.type "bytes") [.ref l]) Q E s := by
  refine bytes_K F N ⟨_, (N _ hl).1, rfl, n, rfl⟩ hi (fun n hn => ?_) (by rw [hi.length, List.length_cons, List.length_map, ints_len, PySem.sizeLine_eq]; omega) hh (fun h' t k F' N' _ => ?_)
  · rcases List.mem_cons.mp hn with rfl | hn
    · omega
    · obtain ⟨y, hy, rfl⟩ := List.mem_map.mp hn
      obtain ⟨z, hz, rfl⟩ := List.mem_map.mp hy
      have := hG z hz
      omega
  · rw [ints_lets]
    exact h h' t k F' N'
end
theorem nums_add {us : List Value} {H : List Nat} {n : Nat} {t : Tok} (h : IntsAre us (nums H)) : IntsAre (us ++ [.int (n : Int) t]) (nums (H ++ [n])) := by
  rw [ints_app]; exact ints_add h
theorem small_add {H : List Nat} {n : Nat} (h : ∀ x ∈ H, x ≤ 5) (hn : n ≤ 5) : ∀ x ∈ H ++ [n], x ≤ 5 := by
  intro x hx
  rcases List.mem_append.mp hx with hx | hx
  · exact h x hx
  · rw [List.mem_singleton.mp hx]; exact hn
theorem off1_mem {D : Addr} : ∀ {l : List (Addr × Obj)}, Off1 D l → ∀ p ∈ l, p.1 ≠ D
  | [], _, _, h => nomatch h
  | _ :: _, x, p, h => by
    rcases List.mem_cons.mp h with rfl | h
    · exact x.1
    · exact off1_mem x.2 p h
section
variable {prog : Program} {w : World} {A : Around} {s₁ : Shared} {h₀ : Heap} {L : Addr} {m : Str → Option Value} {env : Env} {news : List (Addr × Obj)}
variable {elt : PySem.Expr} {x : Str} {scope : Scope} {cl : List (Str × Addr)} {Fin : Shared → List Value → List (Addr × Obj) → Prop}
theorem src_size {us : List Value} {G : List Nat} (hi : IntsAre us (nums G)) (hz : G.length ≤ 1000) : us.toArray.size ≤ sizeLine := by
  rw [List.size_toArray, hi.length, ints_len, PySem.sizeLine_eq]; omega
theorem src_runs {ax : Addr} {k : Nat} {us : List Value} {G : List Nat} (hh : A.handled = none) (F : Fr h₀ L s₁.heap m) (N : News h₀ L s₁.heap news) (hm : (ax, listOf us.toArray k) ∈ news) (hi : IntsAre us (nums G)) (hG : ∀ x ∈ G, x ≤ 5) (hz : G.length ≤ 1000)
    (turn : ∀ (g : Heap) (k : Nat) t I oI C oC D m₂ ys h tk (E' : Value → Shared → Prop), k ≤ 5 → LCg.NsObj oC m₂ → m₂ x = some (.int (k : Int) t) → Fr h₀ L h m → News h₀ L h ((I, oI) :: (C, oC) :: (D, LCg.lst ys) :: news) → LCg.Off3 I C D news → ((@Ne Nat I C) ∧ (@Ne Nat I D) ∧ (@Ne Nat C D)) → KPfMark →
      wpAny (model prog w) A (eval elt (compEnvC scope cl C env)) (LCg.CompEnd h₀ L m { s₁ with heap := h, toks := tk } I oI C oC D (LCg.lst ys) (SrcAt h₀ ax us.toArray) (fun y news' => KCtEl news (rep 34 k) y news')) E' { s₁ with heap := h, toks := tk })
    (fin : ∀ g ys, (∀ L9, DatAll L9 ys (G.map runDat)) → Fin { s₁ with heap := g } ys news) : CompSrc prog w A h₀ L m env elt x scope cl Fin (.ref ax) s₁ :=
  CompSrc.ledger hh F N hm (src_size hi hz) fun g => comp_runs hi hG (fun k t I oI C oC D m₂ ys h tk E' => turn g k t I oI C oC D m₂ ys h tk E') fun ys h => fin g ys h
theorem src_lets {ax : Addr} {k : Nat} {us : List Value} {G : List Nat} (hh : A.handled = none) (F : Fr h₀ L s₁.heap m) (N : News h₀ L s₁.heap news) (hm : (ax, listOf us.toArray k) ∈ news) (hi : IntsAre us (nums G)) (hG : ∀ x ∈ G, x ≤ 5) (hz : G.length ≤ 1000)
    (turn : ∀ (g : Heap) (k : Nat) t I oI C oC D m₂ ys h tk (E' : Value → Shared → Prop), k ≤ 5 → LCg.NsObj oC m₂ → m₂ x = some (.int (k : Int) t) → Fr h₀ L h m → News h₀ L h ((I, oI) :: (C, oC) :: (D, LCg.lst ys) :: news) → LCg.Off3 I C D news → ((@Ne Nat I C) ∧ (@Ne Nat I D) ∧ (@Ne Nat C D)) → KPfMark →
      wpAny (model prog w) A (eval elt (compEnvC scope cl C env)) (LCg.CompEnd h₀ L m { s₁ with heap := h, toks := tk } I oI C oC D (LCg.lst ys) (SrcAt h₀ ax us.toArray) (fun y news' => KCfEl news (65 + (k : Int)) y news')) E' { s₁ with heap := h, toks := tk })
    (fin : ∀ g ys, IntsAre ys ((nums G).map fun k => 65 + k) → Fin { s₁ with heap := g } ys news) : CompSrc prog w A h₀ L m env elt x scope cl Fin (.ref ax) s₁ :=
  CompSrc.ledger hh F N hm (src_size hi hz) fun g => comp_lets hi hG (fun k t I oI C oC D m₂ ys h tk E' => turn g k t I oI C oC D m₂ ys h tk E') fun ys h => fin g ys h
theorem src_in {ax : Addr} {its : Array Value} {k : Nat} (hm : (ax, listOf its k) ∈ news) : SrcAt h₀ ax its news := .inr ⟨_, hm, rfl, _, rfl⟩
theorem fin_list {s : Shared} {Q : Value → Shared → Prop} {ys : List Value} (h : ∀ D h tk, Fr h₀ L h m → News h₀ L h ((D, listOf ys.toArray ys.length) :: news) → Off1 D news → Q (.ref D) { s with heap := h, toks := tk }) : FinE h₀ L m s Q ys news := h
end
section
variable {M : Model} {A : Around} {E : Value → Shared → Prop} {s : Shared} {Q : Value → Shared → Prop}
theorem fd2 (x : Nat) : Int.fdiv (x : Int) 2 = ((x / 2 : Nat) : Int) := by rw [Int.fdiv_eq_ediv_of_nonneg _ (by omega)]; omega
theorem fm2 (x : Nat) : Int.fmod (x : Int) 2 = ((x % 2 : Nat) : Int) := by rw [Int.fmod_eq_emod_of_nonneg _ (by omega)]; omega
end
section
variable {prog : Program} {w : World} {A : Around} {E : Value → Shared → Prop} {s : Shared} {value slice : PySem.Expr} {h₀ : Heap} {L l : Addr} {news : List (Addr × Obj)} {n : Nat} {i a0 a1 a2 a3 a4 : Int} {u t0 t1 t2 t3 t4 : Tok} {Q : Value → Shared → Prop}
/-- the item that a pair's kind asks for -/
theorem pick_two {k x y : Nat} (N : News h₀ L s.heap news) (hm : (l, PySem.W.listOf #[.int (if (x : Int) - (y : Int) < 0 then -((x : Int) - (y : Int)) else (x : Int) - (y : Int)) t0, .int (if (y : Int) > (x : Int) then (y : Int) else (x : Int)) t1, .int (if (y : Int) < (x : Int) then (y : Int) else (x : Int)) t2, .int a3 t3, .int a4 t4] n) ∈ news) (h8 : 8 ≤ k) (h12 : k ≤ 12) (hi : i = (k : Int) - 8)
    (e3 : a3 = if x < y then 1 else 0) (e4 : a4 = if x ≠ y then 1 else 0) (h : ∀ t, Q (.int (two (k - 8) x y : Int) t) s)
    (hs : subscripted slice false (.ref l) (.int i u) = operate [.ref l, .int i u] (getItem (.ref l) (.int i u)) := by with_unfolding_all rfl) :
    wpAny (model prog w) A (subscriptTail value slice (.ref l) (.int i u)) Q E s := by
  have e0 : (if (x : Int) - (y : Int) < 0 then -((x : Int) - (y : Int)) else (x : Int) - (y : Int)) = (two 0 x y : Int) := by rw [two0]; split <;> omega
  have e1 : (if (y : Int) > (x : Int) then (y : Int) else (x : Int)) = (two 1 x y : Int) := by rw [two1]; split <;> omega
  have e2 : (if (y : Int) < (x : Int) then (y : Int) else (x : Int)) = (two 2 x y : Int) := by rw [two2]; split <;> omega
  have e3' : a3 = (two 3 x y : Int) := by rw [e3, two3]; split <;> simp_all
  have e4' : a4 = (two 4 x y : Int) := by rw [e4, two4]; split <;> simp_all
  rw [e0, e1, e2, e3', e4'] at hm
  subst hi
  obtain rfl | rfl | rfl | rfl | rfl : k = 8 ∨ k = 9 ∨ k = 10 ∨ k = 11 ∨ k = 12 := by omega
  · exact li_item (vs := [.int _ t0, .int _ t1, .int _ t2, .int _ t3, .int _ t4]) N hm (by omega) (by omega) rfl (h t0) hs
  · exact li_item (vs := [.int _ t0, .int _ t1, .int _ t2, .int _ t3, .int _ t4]) N hm (by omega) (by omega) rfl (h t1) hs
  · exact li_item (vs := [.int _ t0, .int _ t1, .int _ t2, .int _ t3, .int _ t4]) N hm (by omega) (by omega) rfl (h t2) hs
  · exact li_item (vs := [.int _ t0, .int _ t1, .int _ t2, .int _ t3, .int _ t4]) N hm (by omega) (by omega) rfl (h t3) hs
  · exact li_item (vs := [.int _ t0, .int _ t1, .int _ t2, .int _ t3, .int _ t4]) N hm (by omega) (by omega) rfl (h t4) hs
end
theorem proto_all : ∀ v : Nat, v < 6 → Str.ofString "proto 229 go (||" ++ Str.ofString (toString (v : Int)) ++ Str.ofString "|)" = Str.ofString "proto " ++ lineOf 6 v := by decide +kernel
theorem reply_all : ∀ v : Nat, v < 6 → Str.ofString "reply 227 go (|||" ++ Str.ofString (toString (v : Int)) ++ Str.ofString "|)" = Str.ofString "reply " ++ lineOf 7 v := by decide +kernel
section
variable {items : List (Nat × Nat)} {pre : List Dat} {d : Dat} {k v : Nat} {H G H' : List Nat} {book : List Dat}
theorem pl_good (h6 : k < 6) (hat : items[pre.length]? = some (k, v)) (hd : deskF (items.take pre.length) = (H, book)) (hl : H.length ≤ pre.length) (hb : book.length ≤ 3 * pre.length) :
    (nums (H ++ [v])).length ≤ (pre ++ [d]).length ∧ (book ++ [Dat.int (book.length : Int)] ++ [Dat.list ((H ++ [v]).map runDat)] ++ [Dat.bytes (lets (H ++ [v]))]).length ≤ 3 * (pre ++ [d]).length ∧
      WPlain items (pre ++ [d]).length (nums (H ++ [v])) (book ++ [Dat.int (book.length : Int)] ++ [Dat.list ((H ++ [v]).map runDat)] ++ [Dat.bytes (lets (H ++ [v]))]) := by
  have hsd : said k v book.length = [Dat.int (book.length : Int)] := by simp [said, h6]
  exact pl_end hat hd hl hb (G := H ++ [v]) (by simp [pops, h6]) rfl (by rw [hsd]; simp [tailD]) (by simp) (by rw [hsd]; simp)
theorem pl_six (hv : v ≤ 5) (hat : items[pre.length]? = some (6, v)) (hd : deskF (items.take pre.length) = (H, book)) (hl : H.length ≤ pre.length) (hb : book.length ≤ 3 * pre.length) :
    (nums H).length ≤ (pre ++ [d]).length ∧ (book ++ [Dat.str (Str.ofString "proto 229 go (||" ++ Str.ofString (toString (v : Int)) ++ Str.ofString "|)")] ++ [Dat.list (H.map runDat)] ++ [Dat.bytes (lets H)]).length ≤ 3 * (pre ++ [d]).length ∧
      WPlain items (pre ++ [d]).length (nums H) (book ++ [Dat.str (Str.ofString "proto 229 go (||" ++ Str.ofString (toString (v : Int)) ++ Str.ofString "|)")] ++ [Dat.list (H.map runDat)] ++ [Dat.bytes (lets H)]) := by
  rw [proto_all v (by omega)]
  have hsd : said 6 v book.length = [Dat.str (Str.ofString "proto " ++ lineOf 6 v)] := by simp [said]
  exact pl_end hat hd hl hb (G := H) (by simp [pops]) rfl (by rw [hsd]; simp [tailD]) (by simp) (by rw [hsd]; simp)
theorem pl_seven (hv : v ≤ 5) (hat : items[pre.length]? = some (7, v)) (hd : deskF (items.take pre.length) = (H, book)) (hl : H.length ≤ pre.length) (hb : book.length ≤ 3 * pre.length) :
    (nums H).length ≤ (pre ++ [d]).length ∧ (book ++ [Dat.str (Str.ofString "reply 227 go (|||" ++ Str.ofString (toString (v : Int)) ++ Str.ofString "|)")] ++ [Dat.list (H.map runDat)] ++ [Dat.bytes (lets H)]).length ≤ 3 * (pre ++ [d]).length ∧
      WPlain items (pre ++ [d]).length (nums H) (book ++ [Dat.str (Str.ofString "reply 227 go (|||" ++ Str.ofString (toString (v : Int)) ++ Str.ofString "|)")] ++ [Dat.list (H.map runDat)] ++ [Dat.bytes (lets H)]) := by
  rw [reply_all v (by omega)]
  have hsd : said 7 v book.length = [Dat.str (Str.ofString "reply " ++ lineOf 7 v)] := by simp [said]
  exact pl_end hat hd hl hb (G := H) (by simp [pops]) rfl (by rw [hsd]; simp [tailD]) (by simp) (by rw [hsd]; simp)
theorem pl_snoc (h8 : 8 ≤ k) (hp : pops k v H = G) (hG : G.length ≤ H.length) (hat : items[pre.length]? = some (k, v)) (hd : deskF (items.take pre.length) = (H, book)) (hl : H.length ≤ pre.length) (hb : book.length ≤ 3 * pre.length) :
    (nums G).length ≤ (pre ++ [d]).length ∧ (book ++ [Dat.list (G.map runDat)] ++ [Dat.bytes (lets G)]).length ≤ 3 * (pre ++ [d]).length ∧
      WPlain items (pre ++ [d]).length (nums G) (book ++ [Dat.list (G.map runDat)] ++ [Dat.bytes (lets G)]) := by
  have hsd : said k v book.length = [] := by
    unfold said
    rw [if_neg (by omega), if_neg (by omega), if_neg (by omega)]
  exact pl_end hat hd hl hb hp rfl (by rw [hsd]; simp [tailD]) (by omega) (by rw [hsd]; simp)
end
theorem plain_end {items : List (Nat × Nat)} {h₀ h : Heap} {L' l H Bk D : Addr} {m₀ m' : Str → Option Value} {us hus bus : List Value} {n hn bn : Nat} {G : List Nat} {book pre : List Dat} {d : Dat} {news tl own rest all : List (Addr × Obj)} {o o1 o2 o3 : Obj} {s₁ : Shared} {tk : Nat}
    (hsep : KdSep own tl (Bk :: H :: l :: news.map (·.1))) (F : Fr h₀ L' h m') (N : News h₀ L' h all) (off : Off1 D rest) (m1 : (Bk, o1) ∈ rest) (m2 : (H, o2) ∈ rest) (m3 : (l, o3) ∈ rest) (m4 : ∀ p ∈ news ++ (tl ++ own), p ∈ rest) (hD : (D, o) ∈ all)
    (hn' : ∀ p ∈ (Bk, listOf bus.toArray bn) :: (H, listOf hus.toArray hn) :: (l, listOf us.toArray n) :: (news ++ (tl ++ own)), p ∈ all)
    (hr : ∀ z, z ≠ Str.ofString "kind" → (∀ p ∈ ([] : List (Str × Value)), z ≠ p.1) → plainNames.contains z = false → m' z = m₀ z)
    (hi : IntsAre hus (nums G)) (hb : DatAll (((l, listOf us.toArray n) :: news) ++ ([(D, o)] ++ tl)) bus book)
    (hp : (nums G).length ≤ (pre ++ [d]).length ∧ book.length ≤ 3 * (pre ++ [d]).length ∧ WPlain items (pre ++ [d]).length (nums G) book) :
    InvEndG h₀ L' (PlainSt items H Bk ((l, listOf us.toArray n) :: news) m₀ (Bk :: H :: l :: news.map (·.1)) (pre ++ [d])) own s₁ { s₁ with heap := h, toks := tk } := by
  have off' := off1_mem off
  refine kd_end (σ := Plain2) ((hus, hn, nums G), bus, bn, book) [(D, o)] hsep F N (fun p hp => ?_) (fun p hp => hn' p ?_) rfl (fun q hq b hb => ?_) (fun q hq p hp => ?_) (fun p (z : p ∈ ([] : List (Str × Value))) => nomatch z) hr ⟨hi, hb⟩ hp
  · have : p = (D, o) ∨ p ∈ (Bk, listOf bus.toArray bn) :: (H, listOf hus.toArray hn) :: (l, listOf us.toArray n) :: (news ++ (tl ++ own)) := by
      simp only [List.mem_cons, List.mem_append, List.cons_append, List.nil_append] at hp ⊢
      grind
    rcases this with rfl | h
    · exact hD
    · exact hn' p h
  · simp only [List.mem_cons, List.mem_append] at hp ⊢
    grind
  · rw [List.mem_singleton.mp hq]
    rcases List.mem_cons.mp hb with rfl | hb
    · exact off' _ m1
    · rcases List.mem_cons.mp hb with rfl | hb
      · exact off' _ m2
      · rcases List.mem_cons.mp hb with rfl | hb
        · exact off' _ m3
        · obtain ⟨p, hp, rfl⟩ := List.mem_map.mp hb
          exact off' _ (m4 p (List.mem_append_left _ hp))
  · rw [List.mem_singleton.mp hq]
    exact off' _ (m4 p (List.mem_append_right _ (List.mem_append_right _ hp)))
section
variable {cst tl : List (Addr × Obj)} {D : Addr} {ys bs : List Value} {G : List Nat} {book : List Dat} {t : Tok} {n : Nat} {x : Value} {d : Dat}
theorem book_tail (hb : DatAll (cst ++ tl) bs book) (hys : ∀ L9, DatAll L9 ys (G.map runDat)) : DatAll (cst ++ ([(D, listOf ys.toArray n)] ++ tl)) (bs ++ [.ref D] ++ [.bytes (lets G) t]) (book ++ [.list (G.map runDat)] ++ [.bytes (lets G)]) :=
  DatAll.append (DatAll.append (DatAll.mono kd_sub hb) (.cons (.list (kd_new (.head _)) (hys _)) .nil)) (.cons (.bytes _ _) .nil)
theorem book_tail1 (hb : DatAll (cst ++ tl) bs book) (hx : ∀ L9, DatIn L9 x d) (hys : ∀ L9, DatAll L9 ys (G.map runDat)) : DatAll (cst ++ ([(D, listOf ys.toArray n)] ++ tl)) (bs ++ [x] ++ [.ref D] ++ [.bytes (lets G) t]) (book ++ [d] ++ [.list (G.map runDat)] ++ [.bytes (lets G)]) :=
  book_tail (DatAll.append hb (.cons (hx _) .nil)) hys
end
theorem nums_fd {us : List Value} {H : List Nat} {x : Nat} {t : Tok} (h : IntsAre us (nums H)) : IntsAre (us ++ [.int (Int.fdiv (x : Int) 2) t]) (nums (H ++ [x / 2])) := by
  rw [fd2]; exact nums_add h
theorem nums_fm {us : List Value} {H : List Nat} {x : Nat} {t : Tok} (h : IntsAre us (nums H)) : IntsAre (us ++ [.int (Int.fmod (x : Int) 2) t]) (nums (H ++ [x % 2])) := by
  rw [fm2]; exact nums_add h
theorem plain_done {h₀ h : Heap} {L l D R : Addr} {m : Str → Option Value} {us bus rus : List Value} {n bn rn : Nat} {news tl : List (Addr × Obj)} {items : List (Nat × Nat)} {s : Shared} {tk : Nat} {Q : Value → Shared → Prop}
    (hret : ∀ (D n' : Nat) (bus : List Value) (tl : List (Addr × Obj)) (h' : Heap) (tk' : Nat), Fr h₀ L h' m → News h₀ L h' ((D, PySem.W.listOf bus.toArray n') :: (tl ++ ((l, PySem.W.listOf us.toArray n) :: news))) → DatAll (tl ++ ((l, PySem.W.listOf us.toArray n) :: news)) bus (deskF items).2 → Q (.ref D) { s with heap := h', toks := tk' })
    (F : Fr h₀ L h m) (N : News h₀ L h ((D, listOf bus.toArray bn) :: (R, listOf rus.toArray rn) :: (l, listOf us.toArray n) :: (news ++ tl)))
    (hD : DatAll (((l, listOf us.toArray n) :: news) ++ tl) bus (deskF items).2) : Q (.ref D) { s with heap := h, toks := tk } := by
  refine hret D bn bus ((R, listOf rus.toArray rn) :: tl) h tk F (fun p hp => N p ?_) (DatAll.mono (fun p hp => ?_) hD)
  · simp only [List.mem_cons, List.mem_append, List.cons_append] at hp ⊢
    grind
  · simp only [List.mem_cons, List.mem_append, List.cons_append] at hp ⊢
    grind
end Mine
end
section
open PySem PySem.W PyProof.Rows PySem.Spec PySem.Calls
set_option maxRecDepth 100000
namespace Mine
section
variable {items : List (Nat × Nat)} {p k v : Nat} {H : List Nat} {book : List Dat}
theorem pm_len {H : List Nat} {p : Nat} (h : (nums H).length ≤ p) : H.length ≤ p := by rwa [ints_len] at h
theorem pm_six (hv : v ≤ 5) (hs : ∀ x ∈ H, x ≤ 5) (hd : deskF (items.take p) = (H, book)) (hl : H.length ≤ p) (hb : book.length ≤ 3 * p) : MidG items p 6 v H (book ++ [Dat.str (Str.ofString "proto 229 go (||" ++ Str.ofString (toString (v : Int)) ++ Str.ofString "|)")]) := by
  rw [proto_all v (by omega)]
  exact mg_six hs hd hl hb
theorem pm_seven (hv : v ≤ 5) (hs : ∀ x ∈ H, x ≤ 5) (hd : deskF (items.take p) = (H, book)) (hl : H.length ≤ p) (hb : book.length ≤ 3 * p) : MidG items p 7 v H (book ++ [Dat.str (Str.ofString "reply 227 go (|||" ++ Str.ofString (toString (v : Int)) ++ Str.ofString "|)")]) := by
  rw [reply_all v (by omega)]
  exact mg_seven hs hd hl hb
end
/-- the state amid a turn of the plain loop -/
def MidQ (h₀ : Heap) (L' H Bk : Addr) (cst nx : List (Addr × Obj)) (tl : List (Addr × Obj)) (m₀ : Str → Option Value) (items : List (Nat × Nat)) (p k v : Nat) (s₁ s' : Shared) : Prop :=
  ∃ (hvs : List Value) (hn : Nat) (G : List Nat) (bus : List Value) (bn : Nat) (book : List Dat) (u : Str → Option Value) (h : Heap) (tk : Nat), s' = { s₁ with heap := h, toks := tk } ∧ IntsAre hvs (nums G) ∧ DatAll (cst ++ tl) bus book ∧ MidG items p k v G book ∧
    Fr h₀ L' h (fun y => if y = Str.ofString "kind" then u y else if plainNames.contains y then u y else m₀ y) ∧ News h₀ L' h ((Bk, listOf bus.toArray bn) :: (H, listOf hvs.toArray hn) :: nx)
theorem midq_frame {m' m₀ : Str → Option Value} (hr : ∀ z, z ≠ Str.ofString "kind" → (∀ p ∈ ([] : List (Str × Value)), z ≠ p.1) → plainNames.contains z = false → m' z = m₀ z) : m' = fun y => if y = Str.ofString "kind" then m' y else if plainNames.contains y then m' y else m₀ y := by
  funext y
  by_cases h1 : y = Str.ofString "kind"
  · rw [if_pos h1]
  · rw [if_neg h1]
    cases h2 : plainNames.contains y with
    | true => rfl
    | false => exact hr y h1 (fun p (z : p ∈ ([] : List (Str × Value))) => nomatch z) h2
theorem midq_mk {items : List (Nat × Nat)} {h₀ h : Heap} {L' H Bk : Addr} {m₀ m' : Str → Option Value} {hvs bus : List Value} {hn bn p k v : Nat} {G : List Nat} {book : List Dat} {cst nx tl all : List (Addr × Obj)} {s₁ : Shared} {tk : Nat} {Q : Flow → Shared → Prop}
    (hq : ∀ s', MidQ h₀ L' H Bk cst nx tl m₀ items p k v s₁ s' → Q .next s')
    (F : Fr h₀ L' h m') (N : News h₀ L' h all)
    (hn : ∀ p ∈ (Bk, listOf bus.toArray bn) :: (H, listOf hvs.toArray hn) :: nx, p ∈ all)
    (hr : ∀ z, z ≠ Str.ofString "kind" → (∀ p ∈ ([] : List (Str × Value)), z ≠ p.1) → plainNames.contains z = false → m' z = m₀ z)
    (hi : IntsAre hvs (nums G)) (hb : DatAll (cst ++ tl) bus book) (hp : MidG items p k v G book) : Q .next { s₁ with heap := h, toks := tk } :=
  hq _ ⟨hvs, _, G, bus, bn, book, m', h, tk, rfl, hi, hb, hp, midq_frame hr ▸ F, fun p hp => N p (hn p hp)⟩
theorem bk_one {L : List (Addr × Obj)} {bs : List Value} {book : List Dat} {x : Value} {d : Dat} (hb : DatAll L bs book) (hx : DatIn L x d) : DatAll L (bs ++ [x]) (book ++ [d]) := DatAll.append hb (.cons hx .nil)
section
variable {prog : Program} {w : World} {A : Around} {E : Value → Shared → Prop} {s : Shared} {env : Env} {h₀ : Heap} {s1 : Stmt} {rest : List Stmt} {Q : Flow → Shared → Prop} {pa pb px : Pos} {tk9 : Nat}
/-- the plain loop: the reply and the rest of a turn apart -/
theorem plain_loop2 {l H Bk : Addr} {m₀ : Str → Option Value} {us : List Value} {n hn0 bn0 : Nat} {news : List (Addr × Obj)} {items : List (Nat × Nat)}
    (ha : env.kindOf (Str.ofString "kind") = some .local) (hb : env.kindOf (Str.ofString "value") = some .local) (hc : (env.scope.kind == .class || (env.scope.kind == .module && env.locals != env.globals)) = false) (hh : A.handled = none)
    (hus : DatAll news us (items.map itemDat)) (F : Fr h₀ env.locals s.heap m₀) (N : News h₀ env.locals s.heap ((Bk, listOf [].toArray bn0) :: (H, listOf [].toArray hn0) :: (l, listOf us.toArray n) :: news))
    (head : ∀ (hus : List Value) (hn : Nat) (held : List Int) (bus : List Value) (bn : Nat) (book : List Dat) (tl : List (Addr × Obj)) (p k v : Nat) (tk tv : Tok) (u : Str → Option Value) (h : Heap) (tk' : Nat) (own : List (Addr × Obj)) (Q₁ : Flow → Shared → Prop),
      items[p]? = some (k, v) → p < items.length → OwnOff (tl ++ own) (Bk :: H :: l :: news.map (·.1)) →
      IntsAre hus held → DatAll (((l, listOf us.toArray n) :: news) ++ tl) bus book → held.length ≤ p → book.length ≤ 3 * p → hus.length = held.length → bus.length = book.length → WPlain items p held book →
      Fr h₀ env.locals h (fun y => if y = Str.ofString "value" then some (.int (v : Int) tv) else if y = Str.ofString "kind" then some (.int (k : Int) tk) else if plainNames.contains y then u y else m₀ y) →
      News h₀ env.locals h ((Bk, listOf bus.toArray bn) :: (H, listOf hus.toArray hn) :: (l, listOf us.toArray n) :: (news ++ (tl ++ own))) →
      (∀ s', MidQ h₀ env.locals H Bk ((l, listOf us.toArray n) :: news) ((l, listOf us.toArray n) :: (news ++ (tl ++ own))) tl m₀ items p k v s s' → Q₁ .next s') →
      wpAny (model prog w) A (execs [s1] env) Q₁ E { s with heap := h, toks := tk' })
    (tail : ∀ (hus : List Value) (hn : Nat) (G : List Nat) (bus : List Value) (bn : Nat) (book : List Dat) (tl : List (Addr × Obj)) (pre : List Dat) (d : Dat) (u : Str → Option Value) (h : Heap) (tk' : Nat) (own : List (Addr × Obj)) (Q₁ : Flow → Shared → Prop),
      pre.length < items.length → KdSep own tl (Bk :: H :: l :: news.map (·.1)) → OwnOff (tl ++ own) (Bk :: H :: l :: news.map (·.1)) →
      IntsAre hus (nums G) → DatAll (((l, listOf us.toArray n) :: news) ++ tl) bus book → (∀ x ∈ G, x ≤ 5) → G.length ≤ pre.length + 1 → book.length ≤ 3 * pre.length + 1 → hus.length = G.length → bus.length = book.length →
      ((nums G).length ≤ (pre ++ [d]).length ∧ ((book ++ [Dat.list (G.map runDat)]) ++ [Dat.bytes (lets G)]).length ≤ 3 * (pre ++ [d]).length ∧ WPlain items (pre ++ [d]).length (nums G) ((book ++ [Dat.list (G.map runDat)]) ++ [Dat.bytes (lets G)])) →
      Fr h₀ env.locals h (fun y => if y = Str.ofString "kind" then u y else if plainNames.contains y then u y else m₀ y) →
      News h₀ env.locals h ((Bk, listOf bus.toArray bn) :: (H, listOf hus.toArray hn) :: (l, listOf us.toArray n) :: (news ++ (tl ++ own))) →
      (∀ s', InvEndG h₀ env.locals (PlainSt items H Bk ((l, listOf us.toArray n) :: news) m₀ (Bk :: H :: l :: news.map (·.1)) (pre ++ [d])) own s s' → Q₁ .next s') →
      wpAny (model prog w) A (execs rest env) Q₁ E { s with heap := h, toks := tk' })
    (done : ∀ (hus : List Value) (hn : Nat) (bus : List Value) (bn : Nat) (tl : List (Addr × Obj)) (u : Str → Option Value) (h : Heap) (tk : Nat),
      DatAll (((l, listOf us.toArray n) :: news) ++ tl) bus (deskF items).2 →
      Fr h₀ env.locals h (fun y => if y = Str.ofString "kind" then u y else if plainNames.contains y then u y else m₀ y) →
      News h₀ env.locals h ((Bk, listOf bus.toArray bn) :: (H, listOf hus.toArray hn) :: (l, listOf us.toArray n) :: (news ++ tl)) → Q .next { s with heap := h, toks := tk })
    (hE : PassesOwn (model prog w) A env E := by passes_own) :
    wpAny (model prog w) A (pyIter (.ref l)) (fun it s₂ => codeAny (model prog w) A (.forLoop (.Tuple [.Name (Str.ofString "kind") pa, .Name (Str.ofString "value") pb] tk9 px) it (s1 :: rest) [] env) (fun r s' => match r with | .ok f => Q f s' | .error e => cameBackBy (model prog w) A env E e s') s₂) E s := by
  refine plain_loop ha hb hc hh hus F N (fun hus hn held bus bn book tl pre k v len tk tv u h tk' own hat hlen hsep hO4 hD1 hD2 p1 p2 e1 e2 hW F1 N1 => ?_) done hE
  refine execs_cut1 (P := MidQ h₀ env.locals H Bk ((l, listOf us.toArray n) :: news) ((l, listOf us.toArray n) :: (news ++ (tl ++ own))) tl m₀ items pre.length k v s) ?_ ?_
  · exact head hus hn held bus bn book tl pre.length k v tk tv u h tk' own _ hat (by omega) hO4 hD1 hD2 p1 p2 e1 e2 hW F1 N1 fun s' hs => hs
  · rintro s' ⟨hvs3, hn3, G, bus3, bn3, book3, u3, h3, tk3, rfl, hi3, hD4, hM, F3, N3⟩
    obtain ⟨hG, q1, q2, q3⟩ := mg_out hat hM
    have el : (pre ++ [itemDat (k, v)]).length = pre.length + 1 := by simp
    refine tail hvs3 hn3 G bus3 bn3 book3 tl pre (itemDat (k, v)) u3 h3 tk3 own _ (by omega) hsep hO4 hi3 hD4 hG q1 q2 (by rw [hi3.length, ints_len]) hD4.length ?_ F3 N3 fun s' hs => hs
    rw [el]
    exact ⟨by rw [ints_len]; exact q1, by simp; omega, ⟨by rw [q3]; rfl, by rw [q3]⟩⟩
end
end Mine
end
section
open PySem PySem.W PyProof.Rows
namespace Mine
section
set_option maxRecDepth 100000 in
set_option maxHeartbeats 16000000 in
theorem plain_c (w : World) (items : List (Nat × Nat)) (e : Nat) (hT : Talk 0 items e) (hlen : items.length ≤ 12) (l n : Nat) (us : List Value) :
  ∀ (mean : ExcName → Option Value) (mg mb : Str → Option Value) (dp un : Nat) (gd : Option (List Code)) (cn : Str) (cs : Scope) (a : Addr) (ccd : Value) (cl : List (Str × Addr)) (outer : List Env) (A₀ : Around) (base h₀ : Heap) (L : Addr) (m : Str → Option Value) (news : List (Addr × Obj)) (s : Shared) (Q E : Value → Shared → Prop),
    Below A₀ base outer h₀ → Fr h₀ L s.heap m → (Mine.hd.heap_1 w.params).In h₀ → News h₀ L s.heap ((l, PySem.W.listOf us.toArray n) :: news) → DatAll news us (items.map itemDat) → Top Mine.hd.view_1 (looseW Mine.hd.view_1 [Str.ofString "EXACT_TOKEN_TYPES"]) mean mg mb h₀ → cs.kind = .function →
    dp + 30 < recursionLimit → un + 8 * 30 < cLine →
    (∀ (D n' : Nat) (bus : List Value) (tl : List (Addr × Obj)) (h' : Heap) (tk' : Nat), Fr h₀ L h' m → News h₀ L h' ((D, PySem.W.listOf bus.toArray n') :: (tl ++ ((l, PySem.W.listOf us.toArray n) :: news))) → DatAll (tl ++ ((l, PySem.W.listOf us.toArray n) :: news)) bus (deskF items).2 → Q (.ref D) { s with heap := h', toks := tk' }) →
    wpAny (model PySem.Challenge.rw_wn0106_01.row.prog w) (ktrTop dp un gd cn cs L a ccd cl outer) (call (.ref 155) [.ref l]) Q E s := by
  k_fill
  k_with_none
  intro mean mg mb dp un gd cn cs a ccd cl outer A₀ base h₀ L m news s Q E B F X N hus T hk hd hu hret
  k_with "!exec For Tuple Name cons nil" => (((with_reducible show wpAny _ _ (exec (Stmt.For (PySem.Expr.Tuple [PySem.Expr.Name (Str.ofString "kind") _, _] _ _) _ _ _ _) _) _ _ _); (k_dflt (refine wpAny_For ?_))))
  k_with "!pyIter ref" => (k_dflt (k_extra "pyIter ref"))
  k_with "!InvEndG" => (k_dflt (k_extra "InvEndG"))
  k_with "!binaryOp Mult str int" => ((refine mul_e (mul_quote _) (by decide +kernel) (by omega) (by omega) ?_; intro _ _; (try dsimp only)))
  k_with "!call builtin:list.pop" => ((k_dflt (refine' kl_pop ?F ?N (pop_e _ _) ?U ?z ?_; (case F => k_asm); (case N => k_asm); (case U => k_upd); (case z => (rw [PySem.sizeLine_eq]; simp only [List.length_append, List.length_cons, List.length_nil, List.length_map] at *; omega))); intro h' F' N'; (try dsimp only [List.nil_append, List.cons_append] at N')))
  k_with "!call builtin:list.append" => ((k_dflt (refine' app_e ?F ?N ?U ?z ?_; (case F => k_asm); (case N => k_asm); (case U => k_upd); (case z => first | omega | (simp only [List.length_append, List.length_cons, List.length_nil, List.length_map] at *; omega))); intro h' F' N'; (try k_sweep)))
  k_with "!ite" => (first
      | ((with_reducible refine beq_no ?h9 ?_); (case h9 => omega))
      | ((with_reducible refine beq_yes ?h9 ?_); (case h9 => omega))
      | ((with_reducible refine dec_no ?h9 ?_); (case h9 => omega))
      | ((with_reducible refine dec_yes ?h9 ?_); (case h9 => omega)))
  k_with "!eval ListComp" => ((k_dflt (refine LCg.ListComp_U (F₀ := by k_asm) (by with_unfolding_all rfl) (by decide) (by rfl) (by decide) (by rfl) ?_)))
  k_with "!MyInts" => (first | assumption | exact nums_add (by assumption) | exact nums_fd (by assumption) | exact nums_fm (by assumption))
  k_with "!MySmall" => (first | assumption | exact small_add (by assumption) (by first | omega | exact two_le (by omega) (by omega)))
  k_with "!CompSrc" => (((k_dflt (first
    | ((show LCg.CompSrc _ _ _ _ _ _ _ (PySem.Expr.BinOp (PySem.Expr.Constant (PySem.Const.str _) _ _) _ _ _) _ _ _ _ _ _); refine' src_runs ?hh ?F ?N ?hm ?hi ?hG ?hz (fun g9 k9 t9 I9 oI9 C9 oC9 D9 m9 ys9 h9 tk9 E9 hk9 hC9 hx9 F9 N9 off9 ne9 mk9 => ?_) (fun g9 ys9 hys9 => ?_))
    | ((show LCg.CompSrc _ _ _ _ _ _ _ (PySem.Expr.BinOp (PySem.Expr.Constant (PySem.Const.int _) _ _) _ _ _) _ _ _ _ _ _); refine' src_lets ?hh ?F ?N ?hm ?hi ?hG ?hz (fun g9 k9 t9 I9 oI9 C9 oC9 D9 m9 ys9 h9 tk9 E9 hk9 hC9 hx9 F9 N9 off9 ne9 mk9 => ?_) (fun g9 ys9 hys9 => ?_))); (case hh => k_dflt exact rfl); (case F => k_dflt k_asm); (case N => k_dflt k_asm); (case hm => k_dflt kcf_m); (case hi => walk_at "MyInts"); (case hG => walk_at "MySmall"); (case hz => first | omega | (simp only [List.length_append, List.length_cons, List.length_nil]; omega)); (all_goals (try k_fold)))))
  k_with "!subscriptTail" => (((k_dflt (refine' pick_two ?N ?hm ?h8 ?h12 ?hi ?e3 ?e4 ?_; (case N => k_asm); (case hm => kcf_m); (case h8 => assumption); (case h12 => assumption); (case hi => omega); (case e3 => (split <;> omega)); (case e4 => (split <;> omega)))); intro _; (try dsimp only)))
  k_with "!CompEnd" => ((k_dflt (first | refine ce_str (by assumption) (by assumption) (by kcf_all) (by assumption) (src_in (by kcf_m)) | refine ce_int (by assumption) (by assumption) (by kcf_all) (by assumption) (src_in (by kcf_m)))))
  k_with "!FinE" => (((k_dflt (refine fin_list ?_)); intro D' h' tk' F' N' o1'; (have o1s := o1'); (try simp only [LCg.Off1, and_true] at o1s); (try simp only [List.nil_append, List.cons_append] at N'); (try dsimp only)))
  k_with "!binaryOp Add ref ref" => ((k_dflt (refine' add66 ?F ?N ?ha ?hb ?hj ?hz ?_; (case F => k_asm); (case N => k_asm); (case ha => kcf_m); (case hb => kcf_m); (case hj => assumption); (case hz => first | omega | (simp only [List.length_append, List.length_cons, List.length_nil]; omega))); intro D' ws' h' F' N' l1 hI'; (try k_lt l1); (try k_sweep)))
  k_with "!call type:bytes" => ((k_dflt (refine' bytes66 ?F ?N ?hl ?hi ?hG ?hz ?hh ?_; (case F => k_asm); (case N => k_asm); (case hl => kcf_m); (case hi => assumption); (case hG => walk_at "MySmall"); (case hz => first | omega | (simp only [List.length_append, List.length_cons, List.length_nil]; omega)); (case hh => exact rfl)); intro h' t' k' F' N'; (try dsimp only); (try k_sweep)))
  k_with "pyIter ref" => (
    rename Fr _ _ _ _ => lF'
    rename News _ _ _ (_ :: _ :: _) => lN'
    k_dflt (refine' plain_loop2 (items := items) ?ha ?hb ?hc ?hh hus ?hF ?hN ?turn ?tail ?done ?hE; (case ha => exact rfl); (case hb => exact rfl); (case hc => exact rfl); (case hh => exact rfl); (case hF => exact lF'); (case hN => exact lN'); (case hE => passes_own))
    all_goals clear lF' lN'
    case' turn =>
      intro hvs hn held bs bn book tl p k v tk tv u h2 tk2 own Q9 hat hp9 kO4 hD1 hD2 p1 p2 e1 e2 hW9 F2 N2 hqH
      have kMark := kstMark
      have kMark2 := kdMark
      rcases pway_of hT hat hW9 hD1 with ⟨h6, hv, er, hs, hf⟩ | ⟨h6, hv, er, hs, hf⟩ | ⟨h6, hv, er, hs, hf⟩ | ⟨h6, hv, er, eu, hD9, hs, hx, hf⟩ | ⟨h6, hv, er, eu, hD9, hs, hx, hf⟩ | ⟨h8, h12, hv, er, eu, hD9, hs, hx, hy, hf⟩
      all_goals (clear hW9; (try subst h6); (try subst hv); (try subst eu); subst er)
      all_goals (simp only [List.length_append, ints_len, List.length_cons, List.length_nil] at p1 e1)
      all_goals (try dsimp only)
      all_goals (try k_fold)
    case' tail =>
      intro hvs hn G bs bn book tl pre d u h2 tk2 own Q9 hp9 kSep kO4 hD1 hD2 hs p1 p2 e1 e2 hz9 F2 N2 hqT
      have kMark := kstMark
      have kMark2 := kdMark
      try dsimp only
      try k_fold
    case' done =>
      intro hvs hn bs bn tl u h2 tk2 hD2 F2 N2
      try dsimp only
      try k_fold)
  refine wpAny_call ?_
  k_dflt cell_enter
  k_steps
  all_goals first
    | exact plain_done hret (by assumption) (by assumption) (by assumption)
    | (rename LCg.Off1 _ _ => oB
       clear oB
       rename LCg.Off1 _ _ => oA
       rename News _ _ _ (_ :: _) => nE
       refine' hqT _ (plain_end kSep ?F nE oA ?m1 ?m2 ?m3 ?m4 ?hD ?hn ?hr ?hi ?hb hz9)
       case F => assumption
       case m1 => kcf_m
       case m2 => kcf_m
       case m3 => kcf_m
       case m4 => kcf_all
       case hn => kcf_all
       case hr => kst_same
       case hi => assumption
       case hD => kcf_m
       case hb => exact book_tail (by assumption) (by assumption))
    | (rename News _ _ _ (_ :: _) => nE
       refine' midq_mk hqH ?F nE ?hn ?hr ?hi ?hb ?hp
       case F => assumption
       case hn => kcf_all
       case hr => kst_same
       case hi => first | assumption | exact nums_add (by assumption) | exact nums_fd (by assumption) | exact nums_fm (by assumption)
       case hb => first | assumption | exact bk_one (by assumption) (.int _ _) | exact bk_one (by assumption) (.str _ _)
       case hp => first
         | with_reducible exact mg_good (by assumption) (by assumption) (by assumption) (by assumption) (by assumption) (by assumption)
         | with_reducible exact pm_six (by assumption) (by assumption) (by assumption) (by assumption) (by assumption)
         | with_reducible exact pm_seven (by assumption) (by assumption) (by assumption) (by assumption) (by assumption)
         | with_reducible exact mg_13 (by assumption) (by assumption) (by assumption) (by simpa using p1) (by assumption)
         | with_reducible exact mg_14 (by assumption) (by assumption) (by simpa using p1) (by assumption)
         | with_reducible exact mg_two (by assumption) (by assumption) (by assumption) (by assumption) (by assumption) (by assumption) (by simpa using p1) (by assumption))
  k_with_none
end
end Mine
end
section
open PySem PySem.W PyProof.Rows PySem.Spec PySem.Calls
set_option maxRecDepth 100000
namespace Mine
open LCg LCp SeqAt
section
variable {w : World} {mean : ExcName → Option Value} {mg mb : Str → Option Value} {dp un : Nat} {gd : Option (List Code)} {cn : Str} {cs : Scope} {a : Addr} {ccd : Value} {cl : List (Str × Addr)} {outer : List Env} {A₀ : Around} {base h₀ : Heap} {L : Addr} {m : Str → Option Value} {news : List (Addr × Obj)} {s : Shared} {Q E : Value → Shared → Prop}
theorem items_u {l : Addr} {vs : List Value} {ns : List Int} (hi : IntsAre vs ns) (hns : ns.length ≤ 63) (B : Below A₀ base outer h₀) (F : Fr h₀ L s.heap m) (X : (Mine.hd.heap_1 w.params).In h₀) (N : News h₀ L s.heap news) (T : Top Mine.hd.view_1 (looseW Mine.hd.view_1 [Str.ofString "EXACT_TOKEN_TYPES"]) mean mg mb h₀) (hk : cs.kind = .function)
    (hd : dp + 10 < recursionLimit) (hu : un + 8 * 10 < cLine) (hl : base.IsList l vs.toArray)
    (ret : ∀ (D n : Nat) (us : List Value) (items : List (Nat × Nat)) (tl : List (Addr × Obj)) (h' : Heap) (tk' : Nat), Fr h₀ L h' m → News h₀ L h' ((D, PySem.W.listOf us.toArray n) :: (tl ++ news)) → DatAll (tl ++ news) us (items.map itemDat) → items.length = 12 → (∃ e, Talk 0 items e) → Q (.ref D) { s with heap := h', toks := tk' }) :
    wpAny (model PySem.Challenge.rw_wn0106_01.row.prog w) (ktrTop dp un gd cn cs L a ccd cl outer) (call (.ref 117) [.ref l]) Q E s :=
  items_c w l vs ns hi hns _ _ _ _ _ _ _ _ _ _ _ _ _ _ _ _ _ _ _ _ _ B F X N T hk hd hu hl ret
theorem desk_u {items : List (Nat × Nat)} {l n : Nat} {us : List Value} (hT : ∃ e, Talk 0 items e) (hlen : items.length ≤ 12) (hus : ∀ L9, DatAll L9 us (items.map lineDat))
    (B : Below A₀ h₀ outer h₀) (F : Fr h₀ L s.heap m) (X : (Mine.hd.heap_1 w.params).In h₀) (N : News h₀ L s.heap ((l, PySem.W.listOf us.toArray n) :: news)) (T : Top Mine.hd.view_1 (looseW Mine.hd.view_1 [Str.ofString "EXACT_TOKEN_TYPES"]) mean mg mb h₀) (hk : cs.kind = .function)
    (hd : dp + 30 < recursionLimit) (hu : un + 8 * 30 < cLine)
    (ret : ∀ (D n' : Nat) (bus : List Value) (tl : List (Addr × Obj)) (h' : Heap) (tk' : Nat), Fr h₀ L h' m → News h₀ L h' ((D, PySem.W.listOf bus.toArray n') :: (tl ++ ((l, PySem.W.listOf us.toArray n) :: news))) → DatAll (tl ++ ((l, PySem.W.listOf us.toArray n) :: news)) bus (deskF items).2 → Q (.ref D) { s with heap := h', toks := tk' }) :
    wpAny (model PySem.Challenge.rw_wn0106_01.row.prog w) (ktrTop dp un gd cn cs L a ccd cl outer) (call (.ref 150) [.ref l]) Q E s :=
  hT.elim fun e hT => desk_c w items e hT hlen l n us (hus []) _ _ _ _ _ _ _ _ _ _ _ _ _ _ _ _ _ _ _ _ B F X N T hk hd hu ret
theorem plain_u {items : List (Nat × Nat)} {l n : Nat} {us : List Value} {all : List (Addr × Obj)} (hT : ∃ e, Talk 0 items e) (hlen : items.length ≤ 12)
    (B : Below A₀ base outer h₀) (F : Fr h₀ L s.heap m) (X : (Mine.hd.heap_1 w.params).In h₀) (N : News h₀ L s.heap all) (hl : (l, PySem.W.listOf us.toArray n) ∈ all) (hus : DatAll all us (items.map itemDat)) (T : Top Mine.hd.view_1 (looseW Mine.hd.view_1 [Str.ofString "EXACT_TOKEN_TYPES"]) mean mg mb h₀) (hk : cs.kind = .function)
    (hd : dp + 30 < recursionLimit) (hu : un + 8 * 30 < cLine)
    (ret : ∀ (D n' : Nat) (bus : List Value) (all' : List (Addr × Obj)) (h' : Heap) (tk' : Nat), Fr h₀ L h' m → News h₀ L h' all' → (D, PySem.W.listOf bus.toArray n') ∈ all' → (∀ p ∈ all, p ∈ all') → DatAll all' bus (deskF items).2 → Q (.ref D) { s with heap := h', toks := tk' }) :
    wpAny (model PySem.Challenge.rw_wn0106_01.row.prog w) (ktrTop dp un gd cn cs L a ccd cl outer) (call (.ref 155) [.ref l]) Q E s :=
  hT.elim fun e hT => plain_c w items e hT hlen l n us _ _ _ _ _ _ _ _ _ _ _ _ _ _ _ _ _ all _ _ _ B F X (fun p hp => (List.mem_cons.mp hp).elim (fun z => z ▸ N _ hl) (N p)) hus T hk hd hu
    fun D n' bus tl h' tk' F' N' hD => ret D n' bus _ h' tk' F' N' (.head _) (fun p hp => .tail _ (List.mem_append_right _ (.tail _ hp))) (DatAll.mono (fun p hp => .tail _ hp) hD)
end
section
variable {prog : Program} {w : World} {A : Around} {E : Value → Shared → Prop} {s s₁ : Shared} {h₀ : Heap} {L : Addr} {m : Str → Option Value} {env : Env} {news : List (Addr × Obj)}
variable {elt : PySem.Expr} {x x₂ : Str} {scope : Scope} {cl : List (Str × Addr)} {S : List (Addr × Obj) → Prop} {Fin : List Value → List (Addr × Obj) → Prop}
theorem talk_small {items : List (Nat × Nat)} (hT : ∃ e, Talk 0 items e) : ∀ p ∈ items, p.2 ≤ 5 ∧ p.1 ≤ 14 := hT.elim fun _ h => talk_v h
/-- the lines of the items -/
theorem comp_lines {us : List Value} {items : List (Nat × Nat)} (hus : DatAll news us (items.map itemDat)) (hT : ∃ e, Talk 0 items e)
    (turn : ∀ (k v : Nat) t u I oI C oC D m₂ ys h tk (E' : Value → Shared → Prop), k ≤ 14 → v ≤ 5 → LCg.NsObj oC m₂ → m₂ x = some (.int (k : Int) t) → m₂ x₂ = some (.int (v : Int) u) → Fr h₀ L h m → News h₀ L h ((I, oI) :: (C, oC) :: (D, LCg.lst ys) :: news) → LCg.Off3 I C D news → ((@Ne Nat I C) ∧ (@Ne Nat I D) ∧ (@Ne Nat C D)) →
      wpAny (model prog w) A (eval elt (compEnvC scope cl C env)) (LCg.CompEnd h₀ L m { s with heap := h, toks := tk } I oI C oC D (LCg.lst ys) S (fun y news' => KCtEl news (lineOf k v) y news')) E' { s with heap := h, toks := tk })
    (fin : ∀ ys, (∀ L9, DatAll L9 ys (items.map lineDat)) → Fin ys news) : LCp.CompRestP prog w A h₀ L m env elt x x₂ scope cl s S (fun i v => us.toArray[i]? = some v) Fin us.toArray.size 0 [] news := by
  have len := hus.length
  rw [List.length_map] at len
  have key : ∀ (j i : Nat) (ys : List Value), i + j = us.length → (∀ L9, DatAll L9 ys ((items.take i).map lineDat)) → LCp.CompRestP prog w A h₀ L m env elt x x₂ scope cl s S (fun i v => us.toArray[i]? = some v) Fin j i ys news := by
    intro j
    induction j with
    | zero =>
      intro i ys hi hy
      refine LCp.CompRestP.zero (fin ys fun L9 => ?_)
      have := hy L9
      rwa [List.take_of_length_le (by omega)] at this
    | succ j ih =>
      intro i ys hi hy
      have hlt : i < items.length := by omega
      refine LCp.CompRestP.succ fun v hv => ?_
      obtain ⟨v', e1, hD⟩ := hus.get (k := i) (by rw [List.length_map]; exact hlt)
      have hv' : us[i]? = some v := by simpa using hv
      rw [hv'] at e1
      cases e1
      rw [List.getElem_map] at hD
      obtain ⟨t, tk1, tv1, n, rfl, hm⟩ := item_in hD
      obtain ⟨b1, b2⟩ := talk_small hT _ (List.getElem_mem hlt)
      refine ⟨t, _, _, _, n, rfl, hm, rfl, rfl, fun I oI C oC D m₂ h tk E' hC h1 h2 F N off ne => ?_⟩
      refine wpAny_mono (turn _ _ _ _ I oI C oC D m₂ ys h tk E' b2 b1 hC h1 h2 F N off ne) (fun y s₂ hq => ?_) fun _ _ e => e
      obtain ⟨h', tk', nw, e, F', N', off', hS, hn, t', hy'⟩ := hq
      rw [hn] at N' off' hS
      refine ⟨h', tk', news, e, F', N', off', hS, ?_⟩
      rw [hy']
      refine ih (i + 1) _ (by omega) fun L9 => ?_
      rw [← List.take_append_getElem hlt, List.map_append]
      exact DatAll.append (hy L9) (.cons (.str _ _) .nil)
  exact key us.toArray.size 0 [] (by simp) fun L9 => .nil
theorem src_lines {Fin : Shared → List Value → List (Addr × Obj) → Prop} {ax : Addr} {k : Nat} {us : List Value} {items : List (Nat × Nat)} (hh : A.handled = none) (F : Fr h₀ L s₁.heap m) (N : News h₀ L s₁.heap news) (hm : (ax, listOf us.toArray k) ∈ news) (hus : DatAll news us (items.map itemDat)) (hT : ∃ e, Talk 0 items e) (hlen : items.length = 12)
    (turn : ∀ (k v : Nat) t u I oI C oC D m₂ ys h tk (E' : Value → Shared → Prop), k ≤ 14 → v ≤ 5 → LCg.NsObj oC m₂ → m₂ x = some (.int (k : Int) t) → m₂ x₂ = some (.int (v : Int) u) → Fr h₀ L h m → News h₀ L h ((I, oI) :: (C, oC) :: (D, LCg.lst ys) :: news) → LCg.Off3 I C D news → ((@Ne Nat I C) ∧ (@Ne Nat I D) ∧ (@Ne Nat C D)) →
      wpAny (model prog w) A (eval elt (compEnvC scope cl C env)) (LCg.CompEnd h₀ L m { s₁ with heap := h, toks := tk } I oI C oC D (LCg.lst ys) (SrcAt h₀ ax us.toArray) (fun y news' => KCtEl news (lineOf k v) y news')) E' { s₁ with heap := h, toks := tk })
    (fin : ∀ g ys, (∀ L9, DatAll L9 ys (items.map lineDat)) → Fin { s₁ with heap := g } ys news) : LCp.SrcLP prog w A h₀ L m env elt x x₂ scope cl Fin (.ref ax) s₁ :=
  LCp.SrcLP.ledger hh F N hm (by
    have len := hus.length
    rw [List.length_map] at len
    rw [List.size_toArray, PySem.sizeLine_eq]; omega) fun g => comp_lines (s := { s₁ with heap := g }) hus hT (fun k v t u I oI C oC D m₂ ys h tk E' => turn k v t u I oI C oC D m₂ ys h tk E') fun ys h => fin g ys h
end
/-- what the book holds -/
def Plainly (d : Dat) : Prop := (∃ n, d = .int n) ∨ (∃ x, d = .str x) ∨ (∃ b, d = .bytes b) ∨ ∃ G : List Nat, d = .list (G.map runDat)
theorem book_plainly (its : List (Nat × Nat)) : ∀ st : List Nat × List Dat, (∀ d ∈ st.2, Plainly d) → ∀ d ∈ (its.foldl deskStep st).2, Plainly d := by
  induction its with
  | nil => intro st h; exact h
  | cons p r ih =>
    intro st h
    rw [List.foldl_cons]
    refine ih _ fun d hd => ?_
    rcases List.mem_append.mp hd with hd | hd
    · rcases List.mem_append.mp hd with hd | hd
      · exact h d hd
      · unfold said at hd
        split at hd
        · rw [List.mem_singleton.mp hd]; exact .inl ⟨_, rfl⟩
        · split at hd
          · rw [List.mem_singleton.mp hd]; exact .inr (.inl ⟨_, rfl⟩)
          · split at hd
            · rw [List.mem_singleton.mp hd]; exact .inr (.inl ⟨_, rfl⟩)
            · cases hd
    · rcases List.mem_cons.mp hd with rfl | hd
      · exact .inr (.inr (.inr ⟨_, rfl⟩))
      · rw [List.mem_singleton.mp hd]; exact .inr (.inr (.inl ⟨_, rfl⟩))
section
variable {A : Around} {s : Shared} {h₀ : Heap} {L : Addr} {all : List (Addr × Obj)}
theorem eqAt_bytes (b : Array UInt8) (t u : Tok) : EqAt A s (.bytes b t) (.bytes b u) true := fun prog w E Q h => by
  unfold eqBool
  refine wpAny_holding ?_
  refine wpAny_ite_split (fun _ => ?_) (fun _ => ?_)
  · exact wpAny_bind (wpAny_rule (wpAny_pure h))
  · refine wpAny_bind (eq_bytes (b := b) (c := b) (t := t) (u := u) ?_)
    rw [beq_self_eq_true]
    exact wpAny_truthy_bool h
theorem all_true (n : Nat) : ((List.range n).all fun _ => true) = true := by simp
theorem eq_items {us ws : List Value} {ds : List Dat} (h1 : DatAll all us ds) (h2 : DatAll all ws ds) (he : ∀ d ∈ ds, ∀ v u, DatIn all v d → DatIn all u d → EqAt A s v u true) :
    ∀ j (_ : j < us.toArray.size) (_ : j < ws.toArray.size), EqAt A s us.toArray[j] ws.toArray[j] true := by
  intro j a b
  have l1 := h1.length
  have l2 := h2.length
  rw [List.size_toArray] at a b
  have hj : j < ds.length := by omega
  obtain ⟨v, e1, d1⟩ := h1.get hj
  obtain ⟨u, e2, d2⟩ := h2.get hj
  have e3 : us.toArray[j] = v := by
    rw [List.getElem?_eq_getElem a] at e1
    simpa using e1
  have e4 : ws.toArray[j] = u := by
    rw [List.getElem?_eq_getElem b] at e2
    simpa using e2
  rw [e3, e4]
  exact he _ (List.getElem_mem hj) v u d1 d2
theorem rc_lists {l b n n' : Nat} {us ws : List Value} {ds : List Dat} (N : News h₀ L s.heap all) (hl : (l, listOf us.toArray n) ∈ all) (hb : (b, listOf ws.toArray n') ∈ all) (h1 : DatAll all us ds) (h2 : DatAll all ws ds) (hu : A.units < cLine)
    (he : ∀ d ∈ ds, ∀ v u, DatIn all v d → DatIn all u d → EqAt A.in1 s v u true) : RcAt A s (.ref l) (.ref b) true := by
  have := RcAt.lists (A := A) (s := s) (l := l) (b := b) (items := us.toArray) (items2 := ws.toArray) (e := fun _ => true) ⟨_, (N _ hl).1, rfl, n, rfl⟩ ⟨_, (N _ hb).1, rfl, n', rfl⟩
    (by rw [List.size_toArray, List.size_toArray, h1.length, h2.length]) hu (eq_items h1 h2 he)
  rwa [all_true] at this
theorem eq_datum (N : News h₀ L s.heap all) (hu : A.units < cLine) {d : Dat} (hp : Plainly d) {v u : Value} (h1 : DatIn all v d) (h2 : DatIn all u d) : EqAt A s v u true := by
  rcases hp with ⟨n, rfl⟩ | ⟨x, rfl⟩ | ⟨b, rfl⟩ | ⟨G, rfl⟩
  · cases h1; cases h2
    rename_i t1 t2
    have := SeqAt.EqAt.int_int (A := A) (s := s) n t1 n t2
    rwa [beq_self_eq_true] at this
  · cases h1; cases h2
    rename_i t1 t2
    have := SeqAt.EqAt.str_str (A := A) (s := s) x t1 x t2
    rwa [beq_self_eq_true] at this
  · cases h1; cases h2
    exact eqAt_bytes b _ _
  · cases h1 with
    | @list a1 us1 n1 _ m1 d1 =>
      cases h2 with
      | @list a2 us2 n2 _ m2 d2 =>
        by_cases e : a1 = a2
        · subst e
          exact EqAt.same _
        · refine EqAt.of_refs e (rc_lists N m1 m2 d1 d2 hu fun d hd v u x1 x2 => ?_)
          obtain ⟨n, _, rfl⟩ := List.mem_map.mp hd
          obtain ⟨t1, rfl⟩ := datin_str x1
          obtain ⟨t2, rfl⟩ := datin_str x2
          have := SeqAt.EqAt.str_str (A := A.in1) (s := s) (rep 34 n) t1 (rep 34 n) t2
          rwa [beq_self_eq_true] at this
/-- the two books are equal -/
theorem books {prog : Program} {w : World} {E : Value → Shared → Prop} {Q : Value → Shared → Prop} {items : List (Nat × Nat)} {l b n n' : Nat} {us ws : List Value} (N : News h₀ L s.heap all) (hl : (l, listOf us.toArray n) ∈ all) (hb : (b, listOf ws.toArray n') ∈ all) (h1 : DatAll all us (deskF items).2) (h2 : DatAll all ws (deskF items).2) (hu : A.units + 1 < cLine)
    (h : Q (.bool true) s) : wpAny (model prog w) A (compareOp .Eq (.ref l) (.ref b)) Q E s :=
  rc_lists N hl hb h1 h2 (by omega) (fun d hd v u x1 x2 => eq_datum N (A := A.in1) hu (book_plainly items ([], []) (fun d (z : d ∈ ([] : List Dat)) => nomatch z) d hd) x1 x2) prog w E Q h
end
end Mine
end
section
open PySem PySem.W PyProof.Rows
section
open Mine
set_option maxRecDepth 100000 in
set_option maxHeartbeats 4000000 in
theorem PySem.Challenge.cw_wn0106_01_holds : PySem.Challenge.rw_wn0106_01.Holds := by
  refine Mine.hdS ?_
  intro said
  refine Mine.hdL ?_
  intro l
  refine Mine.hd ?_
  refine And.intro said ?_
  refine And.intro l ?_
  clear said l
  k_with_none
  k_with "!MyUse" => (((case k1 => k_asm); (case k2 => k_asm); (case k3 => k_asm); (case k4 => k_asm); (case k5 => k_asm); (case kK => first | exact rfl | assumption); (case kd => ktr_room); (case ku => ktr_units); intro t9 h9 tk9 F9 N9; (try dsimp only); (try k_fold)))
  k_with "!call ref" => (((with_reducible show wpAny _ _ (call (Value.ref 124) _) _ _ _); (k_dflt (refine' Pure1.use (line_c _ _ _ _ _ ?ka ?kb) ?k1 ?k2 ?k3 ?k4 ?k5 ?kK ?kd ?ku ?_; (case ka => assumption); (case kb => assumption); walk_at "MyUse"))))
  k_with "!MyFrame" => (((case k1 => k_asm); (case k2 => k_asm); (case k3 => k_asm); (case k5 => k_asm); (case kK => first | exact rfl | assumption); (case kd => ktr_room); (case ku => ktr_units)))
  k_with "!call ref" => (((with_reducible show wpAny _ _ (call (Value.ref 117) _) _ _ _); (k_dflt (refine' items_u ?hi ?hns ?k1 ?k2 ?k3 ?k4 ?k5 ?kK ?kd ?ku ?hl ?_; walk_at "MyFrame"; (case k4 => k_asm); (case hi => assumption); (case hl => assumption); (case hns => omega))); intro D9 n9 us9 its9 tl9 h9 tk9 F9 N9 hD9 hn9 hT9; (try dsimp only); (try k_fold)))
  k_with "!call ref" => (((with_reducible show wpAny _ _ (call (Value.ref 150) _) _ _ _); (k_dflt (refine' desk_u ?hT ?hn ?hus ?k1 ?k2 ?k3 ?k4 ?k5 ?kK ?kd ?ku ?_; walk_at "MyFrame"; (case k4 => assumption); (case hus => assumption); (case hT => assumption); (case hn => omega))); intro D9 n9 us9 tl9 h9 tk9 F9 N9 hD9; (try dsimp only); (try k_fold)))
  k_with "!call ref" => (((with_reducible show wpAny _ _ (call (Value.ref 155) _) _ _ _); (k_dflt (refine' plain_u ?hT ?hn ?k1 ?k2 ?k3 ?k4 ?hl ?hus ?k5 ?kK ?kd ?ku ?_; walk_at "MyFrame"; (case k4 => assumption); (case hT => assumption); (case hn => omega); (case hl => kcf_m); (case hus => (refine DatAll.mono ?kdM (by assumption); (case kdM => kcf_all))))); intro D9 n9 us9 all9 h9 tk9 F9 N9 hm9 hs9 hD9; (try dsimp only); (try k_fold)))
  k_with "!eval ListComp" => ((k_dflt (refine LCp.ListComp_P (F₀ := by k_asm) (by with_unfolding_all rfl) (by decide) (by rfl) (by decide) (by rfl) (by rfl) (by decide) ?_)))
  k_with "!SrcLP" => (((k_dflt (refine' src_lines ?hh ?F ?N ?hm ?hus ?hT ?hn (fun k9 v9 t9 u9 I9 oI9 C9 oC9 D9 m9 ys9 h9 tk9 E9 hk9 hv9 hC9 hx9 hy9 F9 N9 off9 ne9 => ?_) (fun g9 ys9 hys9 => ?_); (case hh => exact rfl); (case F => k_asm); (case N => k_asm); (case hm => kcf_m); (case hus => (refine DatAll.mono ?kdM (by assumption); (case kdM => kcf_all))); (case hT => assumption); (case hn => assumption))); (all_goals (try k_fold))))
  k_with "!CompEnd" => ((k_dflt (refine ce_str (by assumption) (by assumption) (by kcf_all) (by assumption) (src_in (by kcf_m)))))
  k_with "!FinE" => (((k_dflt (refine fin_list ?_)); intro D' h' tk' F' N' o1'; (try simp only [List.nil_append, List.cons_append] at N'); (try dsimp only)))
  k_with "!compareOp Eq ref ref" => ((k_dflt (refine' books ?N ?hl ?hb ?h1 ?h2 ?hu ?_; (case N => assumption); (case hb => assumption); (case h2 => assumption); (case hl => (apply_assumption; kcf_m)); (case h1 => (refine DatAll.mono ?kdM (by assumption); (case kdM => (intro p hp; apply_assumption; first | assumption | exact List.mem_cons_of_mem _ hp)))); (case hu => ktr_units))))
  k_go0
  (all_goals try k_fold)
  k_steps
end
end
