import PyProof.Rows.All
import Wide.All
import OpenK.AllK
import Wide.FinOn
import PyProof.ConsumeS
import PyProof.CollectIter
import PyProof.ZipIter
import PyProof.WalksEnum
import KE.BytesMake
import KE.KSlice
import KE.KLcFree
import KE.KEqDat
import KE.KLcPair
import KE.KPairComp
import KE.KRevSl
import PySem.Challenge.RW_pd0128_01
set_option Elab.async false
section
open PySem PySem.W PyProof.Rows
namespace Mine
/-- the row of a small def of the same program: its head lays the program's objects -/
abbrev sepRow : OpenRow := { PySem.Challenge.rw_pd0128_01.row with name := Str.ofString "_get_sep", args := [.bytes], returns := .bytes, pre := .lit (.bool true), post := .lit (.bool true), keeps := [], pinned := false }
theorem hd.tw17087091549796120035 : True := .intro
theorem hd.tw15616948245753086127 : True := .intro
theorem hd.tw978945382295711627 : True := .intro
theorem hd.tw5961118342813265553 : True := .intro
theorem hd.tw6293948785866598258 : True := .intro
theorem hd.tw9641152695372364146 : True := .intro
theorem hd.tw5148922909946612681 : True := .intro
theorem hd.tw14620637471214046174 : True := .intro
theorem hd.tw17808607793243039243 : True := .intro
theorem hd.tw2867327485932766208 : True := .intro
theorem hd.tw3259873300814134281 : True := .intro
theorem hd.tw11117797201346649052 : True := .intro
theorem hd.tw17397052962432165270 : True := .intro
theorem hd.tw8343274005884668182 : True := .intro
theorem hd.tw8414420238210853183 : True := .intro
theorem hd.tw13330244855972007585 : True := .intro
theorem hd.tw2114630138375439770 : True := .intro
theorem hd.tw7752767780024739350 : True := .intro
theorem hd.tw17650839729002327288 : True := .intro
theorem hd.tw8841187974860818712 : True := .intro
theorem hd.tw10296555574160606952 : True := .intro
theorem hd.tw5567388512258382067 : True := .intro
theorem hd.tw11893437276241958245 : True := .intro
theorem hd.tw18300207936620678264 : True := .intro
theorem hd.tw12173100003817136821 : True := .intro
theorem hd.tw4115565904173853331 : True := .intro
theorem hd.tw10111801491309104144 : True := .intro
theorem hd.tw8832402302947667407 : True := .intro
theorem hd.tw12901994302517312135 : True := .intro
theorem hd.tw13225837485096350037 : True := .intro
theorem hd.tw11611254532205267744 : True := .intro
theorem hd.tw16037735763661986305 : True := .intro
theorem hd.tw9421340871869096474 : True := .intro
theorem hd.tw701787995468756871 : True := .intro
theorem hd.tw7914949630228597729 : True := .intro
theorem hd.tw7347323935397111125 : True := .intro
theorem hd.tw16222499966895952523 : True := .intro
theorem hd.tw9277588360372424766 : True := .intro
theorem hd.tw5978321128707920903 : True := .intro
theorem hd.tw6060742912462422084 : True := .intro
theorem hd.tw10258999931320997221 : True := .intro
theorem hd.tw10170382586518783626 : True := .intro
theorem hd.tw17574625026820762457 : True := .intro
theorem hd.tw4225703048834024713 : True := .intro
theorem hd.tw2037972409741389414 : True := .intro
theorem hd.tw16945582573551092051 : True := .intro
theorem hd.tw15527848837575444561 : True := .intro
theorem hd.tw13828106393651249627 : True := .intro
theorem hd.tw4272726840584523970 : True := .intro
theorem hd.tw11447273431469733495 : True := .intro
theorem hd.tw16828841361933241965 : True := .intro
theorem hd.tw15595854959937240912 : True := .intro
theorem hd.tw17950676927832955104 : True := .intro
theorem hd.tw7109450275434161582 : True := .intro
theorem hd.tw10458740792067480800 : True := .intro
theorem hd.tw3219085151875037572 : True := .intro
theorem hd.tw15833661619300960221 : True := .intro
theorem hd.tw16091413853298234908 : True := .intro
theorem hd.tw3530705653197291679 : True := .intro
theorem hd.tw7816577550770918932 : True := .intro
theorem hd.tw54727356038600574 : True := .intro
theorem hd.tw6820862383352777685 : True := .intro
theorem hd.tw6276725880618359904 : True := .intro
theorem hd.tw3789350110615891812 : True := .intro
theorem hd.tw4478166936697009375 : True := .intro
theorem hd.tw18103342009636024947 : True := .intro
theorem hd.tw15967140613478806237 : True := .intro
theorem hd.tw16194383521188589630 : True := .intro
theorem hd.tw12598724348716800887 : True := .intro
theorem hd.tw11210553801493137410 : True := .intro
theorem hd.tw18129098259903571784 : True := .intro
theorem hd.tw7059539395403794157 : True := .intro
theorem hd.tw1413172679324656950 : True := .intro
theorem hd.tw9719896912496429819 : True := .intro
theorem hd.tw6154236146145331571 : True := .intro
theorem hd.tw16464124811512333359 : True := .intro
theorem hd.tw5130813555471234732 : True := .intro
theorem hd.tw15089522573102190283 : True := .intro
theorem hd.tw11917015161858427179 : True := .intro
theorem hd.tw12472140842598129695 : True := .intro
theorem hd.tw12451258846644117672 : True := .intro
theorem hd.tw13825509269061658866 : True := .intro
theorem hd.tw14747105943602037286 : True := .intro
theorem hd.tw11387694631328260470 : True := .intro
theorem hd.tw4360684699965382250 : True := .intro
theorem hd.tw17672654358674132775 : True := .intro
theorem hd.tw10360471539772378328 : True := .intro
theorem hd.tw8735263284916673568 : True := .intro
theorem hd.tw13267510147771200024 : True := .intro
theorem hd.tw17681399029576232318 : True := .intro
theorem hd.tw8959176491354863721 : True := .intro
theorem hd.tw5559951931751713254 : True := .intro
theorem hd.tw5511420028821071320 : True := .intro
theorem hd.tw15153279154761372571 : True := .intro
theorem hd.tw6555240042291301478 : True := .intro
theorem hd.tw6411954120941647267 : True := .intro
theorem hd.tw922143313871775805 : True := .intro
theorem hd.tw10792051664901133789 : True := .intro
theorem hd.tw12070051907170230399 : True := .intro
theorem hd.tw11232374478483605306 : True := .intro
theorem hd.tw11959044307898795358 : True := .intro
theorem hd.tw9960721518486171458 : True := .intro
theorem hd.tw1997569388931296116 : True := .intro
theorem hd.tw1353933474123613458 : True := .intro
theorem hd.tw17054507655720011243 : True := .intro
theorem hd.tw13956165655338008812 : True := .intro
theorem hd.tw8364274539379898114 : True := .intro
theorem hd.tw4402725079659364252 : True := .intro
theorem hd.tw1600037746751723098 : True := .intro
theorem hd.tw8458067239894703972 : True := .intro
theorem hd.tw8226494294326810461 : True := .intro
theorem hd.tw11465210709893060100 : True := .intro
theorem hd.tw3451239065008710300 : True := .intro
theorem hd.tw11319097763535126812 : True := .intro
theorem hd.tw15759970867653108152 : True := .intro
theorem hd.tw6407587892757256292 : True := .intro
theorem hd.tw8457440626546761165 : True := .intro
theorem hd.tw6082411064634330575 : True := .intro
theorem hd.tw13338143212406534295 : True := .intro
theorem hd.tw9237616624170024493 : True := .intro
theorem hd.tw7754304195085646258 : True := .intro
theorem hd.tw10258225898301398825 : True := .intro
theorem hd.tw13753220567063992666 : True := .intro
theorem hd.tw3493717111155160527 : True := .intro
theorem hd.tw22551697357593593 : True := .intro
theorem hd.tw6291416237084387574 : True := .intro
theorem hd.tw6892424819385984264 : True := .intro
theorem hd.tw6767318904944593275 : True := .intro
theorem hd.tw10601615944963115059 : True := .intro
theorem hd.tw7296583596125217682 : True := .intro
theorem hd.tw5461583852855630226 : True := .intro
theorem hd.tw8086110750863094267 : True := .intro
theorem hd.tw12271959270614036898 : True := .intro
theorem hd.tw3646829019195819677 : True := .intro
theorem hd.tw17177331786930743035 : True := .intro
theorem hd.tw4325921153153474475 : True := .intro
theorem hd.tw17542962492245011380 : True := .intro
theorem hd.tw14015909994521340511 : True := .intro
theorem hd.tw12797040952259185971 : True := .intro
theorem hd.tw11660266114150955751 : True := .intro
theorem hd.tw6442067068224118133 : True := .intro
theorem hd.tw16477043939570097188 : True := .intro
theorem hd.tw3229955645248102723 : True := .intro
theorem hd.tw9014375795449043846 : True := .intro
theorem hd.tw2068664650715991707 : True := .intro
theorem hd.tw5190246844813560578 : True := .intro
theorem hd.tw14103535550066685397 : True := .intro
theorem hd.tw16432713993328977331 : True := .intro
theorem hd.tw7759229714527045040 : True := .intro
theorem hd.tw7028611270464810887 : True := .intro
theorem hd.tw14246236162039180721 : True := .intro
theorem hd.tw6305734824756694309 : True := .intro
theorem hd.tw2708950531961675432 : True := .intro
theorem hd.tw12023040214023829324 : True := .intro
set_option Elab.async true in
set_option maxRecDepth 100000 in
set_option maxHeartbeats 8000000 in
theorem hd : sepRow.Holds := by
  w_on
  k_head
  case hw => w_witness2
  case hc => w_strict k_go
/-- the objects that the law reaches, by address -/
noncomputable def lawK : Params → Frag := fun P => (nat_lit 2, PySem.W.boot_o_2 P) :: (nat_lit 3, Mine.hd.o_1_107 P) :: (nat_lit 15, Mine.hd.o_1_18 P) :: (nat_lit 17, Mine.hd.o_1_20 P) :: (nat_lit 18, Mine.hd.o_1_21 P) :: (nat_lit 20, Mine.hd.o_1_23 P) :: (nat_lit 21, Mine.hd.o_1_24 P) :: (nat_lit 22, Mine.hd.o_1_25 P) :: (nat_lit 24, Mine.hd.o_1_27 P) :: (nat_lit 25, Mine.hd.o_1_28 P) :: (nat_lit 27, Mine.hd.o_1_30 P) :: (nat_lit 28, Mine.hd.o_1_31 P) :: (nat_lit 29, Mine.hd.o_1_32 P) :: (nat_lit 36, Mine.hd.o_1_39 P) :: (nat_lit 38, Mine.hd.o_1_41 P) :: (nat_lit 39, Mine.hd.o_1_42 P) :: (nat_lit 41, Mine.hd.o_1_44 P) :: (nat_lit 42, Mine.hd.o_1_45 P) :: (nat_lit 43, Mine.hd.o_1_46 P) :: (nat_lit 44, Mine.hd.o_1_47 P) :: (nat_lit 45, Mine.hd.o_1_56 P) :: (nat_lit 48, Mine.hd.o_1_57 P) :: (nat_lit 55, Mine.hd.o_1_64 P) :: (nat_lit 57, Mine.hd.o_1_66 P) :: (nat_lit 58, Mine.hd.o_1_67 P) :: (nat_lit 60, Mine.hd.o_1_69 P) :: (nat_lit 61, Mine.hd.o_1_70 P) :: (nat_lit 62, Mine.hd.o_1_71 P) :: (nat_lit 64, Mine.hd.o_1_73 P) :: (nat_lit 65, Mine.hd.o_1_74 P) :: (nat_lit 67, Mine.hd.o_1_76 P) :: (nat_lit 68, Mine.hd.o_1_77 P) :: (nat_lit 69, Mine.hd.o_1_78 P) :: (nat_lit 71, Mine.hd.o_1_80 P) :: (nat_lit 72, Mine.hd.o_1_81 P) :: (nat_lit 74, Mine.hd.o_1_83 P) :: (nat_lit 75, Mine.hd.o_1_84 P) :: (nat_lit 76, Mine.hd.o_1_85 P) :: (nat_lit 77, Mine.hd.o_1_86 P) :: (nat_lit 78, Mine.hd.o_1_87 P) :: (nat_lit 81, Mine.hd.o_1_90 P) :: (nat_lit 83, Mine.hd.o_1_92 P) :: (nat_lit 84, Mine.hd.o_1_93 P) :: (nat_lit 86, Mine.hd.o_1_95 P) :: (nat_lit 87, Mine.hd.o_1_96 P) :: (nat_lit 88, Mine.hd.o_1_97 P) :: (nat_lit 90, Mine.hd.o_1_99 P) :: (nat_lit 91, Mine.hd.o_1_100 P) :: (nat_lit 93, Mine.hd.o_1_102 P) :: (nat_lit 94, Mine.hd.o_1_103 P) :: (nat_lit 95, Mine.hd.o_1_109 P) :: (nat_lit 97, Mine.hd.o_1_111 P) :: (nat_lit 98, Mine.hd.o_1_112 P) :: (nat_lit 100, Mine.hd.o_1_114 P) :: (nat_lit 101, Mine.hd.o_1_115 P) :: (nat_lit 102, Mine.hd.o_1_116 P) :: (nat_lit 104, Mine.hd.o_1_118 P) :: (nat_lit 105, Mine.hd.o_1_119 P) :: (nat_lit 107, Mine.hd.o_1_121 P) :: (nat_lit 108, Mine.hd.o_1_122 P) :: (nat_lit 109, Mine.hd.o_1_123 P) :: (nat_lit 111, Mine.hd.o_1_125 P) :: (nat_lit 112, Mine.hd.o_1_126 P) :: (nat_lit 114, Mine.hd.o_1_128 P) :: (nat_lit 115, Mine.hd.o_1_129 P) :: (nat_lit 116, Mine.hd.o_1_130 P) :: (nat_lit 118, Mine.hd.o_1_132 P) :: (nat_lit 119, Mine.hd.o_1_133 P) :: (nat_lit 121, Mine.hd.o_1_135 P) :: (nat_lit 122, Mine.hd.o_1_136 P) :: (nat_lit 123, Mine.hd.o_1_137 P) :: (nat_lit 126, Mine.hd.o_1_140 P) :: (nat_lit 127, Mine.hd.o_1_141 P) :: (nat_lit 128, Mine.hd.o_1_142 P) :: (nat_lit 130, Mine.hd.o_1_144 P) :: (nat_lit 131, Mine.hd.o_1_145 P) :: (nat_lit 133, Mine.hd.o_1_147 P) :: (nat_lit 134, Mine.hd.o_1_148 P) :: (nat_lit 135, Mine.hd.o_1_149 P) :: (nat_lit 137, Mine.hd.o_1_151 P) :: (nat_lit 138, Mine.hd.o_1_152 P) :: (nat_lit 140, Mine.hd.o_1_154 P) :: (nat_lit 141, Mine.hd.o_1_155 P) :: (nat_lit 142, Mine.hd.o_1_156 P) :: (nat_lit 144, Mine.hd.o_1_158 P) :: (nat_lit 145, Mine.hd.o_1_159 P) :: (nat_lit 147, Mine.hd.o_1_161 P) :: (nat_lit 148, Mine.hd.o_1_162 P) :: (nat_lit 149, Mine.hd.o_1_163 P) :: (nat_lit 151, Mine.hd.o_1_165 P) :: (nat_lit 152, Mine.hd.o_1_166 P) :: (nat_lit 154, Mine.hd.o_1_168 P) :: (nat_lit 155, Mine.hd.o_1_169 P) :: (nat_lit 156, Mine.hd.o_1_170 P) :: (nat_lit 158, Mine.hd.o_1_172 P) :: (nat_lit 159, Mine.hd.o_1_173 P) :: (nat_lit 161, Mine.hd.o_1_175 P) :: (nat_lit 162, Mine.hd.o_1_176 P) :: (nat_lit 163, Mine.hd.o_1_177 P) :: (nat_lit 166, Mine.hd.o_1_180 P) :: (nat_lit 167, Mine.hd.o_1_181 P) :: []
noncomputable def lawAs : List Addr := 2 :: 3 :: 15 :: 17 :: 18 :: 20 :: 21 :: 22 :: 24 :: 25 :: 27 :: 28 :: 29 :: 36 :: 38 :: 39 :: 41 :: 42 :: 43 :: 44 :: 45 :: 48 :: 55 :: 57 :: 58 :: 60 :: 61 :: 62 :: 64 :: 65 :: 67 :: 68 :: 69 :: 71 :: 72 :: 74 :: 75 :: 76 :: 77 :: 78 :: 81 :: 83 :: 84 :: 86 :: 87 :: 88 :: 90 :: 91 :: 93 :: 94 :: 95 :: 97 :: 98 :: 100 :: 101 :: 102 :: 104 :: 105 :: 107 :: 108 :: 109 :: 111 :: 112 :: 114 :: 115 :: 116 :: 118 :: 119 :: 121 :: 122 :: 123 :: 126 :: 127 :: 128 :: 130 :: 131 :: 133 :: 134 :: 135 :: 137 :: 138 :: 140 :: 141 :: 142 :: 144 :: 145 :: 147 :: 148 :: 149 :: 151 :: 152 :: 154 :: 155 :: 156 :: 158 :: 159 :: 161 :: 162 :: 163 :: 166 :: 167 :: []
theorem lawAs_eq (P : Params) : lawAs = (lawK P).map (·.1) := by kernel_rfl
/-- the law's record, as the view has it -/
noncomputable def lawRec : { d : DefRec × List (Str × PySem.Expr) // defOf Mine.hd.view_1_2 (Str.ofString "law") = some d } := ⟨_, by rfl⟩
end Mine
end
section
open PySem PySem.W PyProof.Rows PySem.Calls
set_option maxRecDepth 100000
namespace Mine
open PySem.Builtin
section facts
theorem slot_rfind : Slot "bytes" "rfind" "bytes.rfind" :=
  .of (owner := "bytes") (n := "rfind") (by rw [typeLookup_type, builtinLookup_eq_fast]; kernel_rfl) (by decide +kernel) (by decide +kernel) (by decide +kernel)
    (by first | exact .inl (by decide +kernel) | exact .inr (by decide +kernel)) (by rw [isSubtype_type]; kernel_rfl)
theorem type_rfind : typeOf (.builtin "bytes.rfind") = pure (.type "method_descriptor") := by show builtinType _ = _; rw [builtinType_eq_fast]; kernel_rfl
theorem entry_rfind : entryFor table "bytes.rfind" = some Builtin.«bytes.rfind» := entryFor_of_tree (by kernel_rfl)
theorem args_rfind (a b : Value) : argsOk "bytes.rfind" ⟨[a, b], []⟩ := by
  unfold argsOk; rw [signature?_of (id := "bytes.rfind") (n := "rfind".toList.reverse) (o := ['s', 'e', 't', 'y', 'b']) (by kernel_rfl) FB.owner_bytes]; kernel_rfl
theorem slot_rstrip : Slot "bytes" "rstrip" "bytes.rstrip" :=
  .of (owner := "bytes") (n := "rstrip") (by rw [typeLookup_type, builtinLookup_eq_fast]; kernel_rfl) (by decide +kernel) (by decide +kernel) (by decide +kernel)
    (by first | exact .inl (by decide +kernel) | exact .inr (by decide +kernel)) (by rw [isSubtype_type]; kernel_rfl)
theorem type_rstrip : typeOf (.builtin "bytes.rstrip") = pure (.type "method_descriptor") := by show builtinType _ = _; rw [builtinType_eq_fast]; kernel_rfl
theorem entry_rstrip : entryFor table "bytes.rstrip" = some Builtin.«bytes.rstrip» := entryFor_of_tree (by kernel_rfl)
theorem args_rstrip (a b : Value) : argsOk "bytes.rstrip" ⟨[a, b], []⟩ := by
  unfold argsOk; rw [signature?_of (id := "bytes.rstrip") (n := "rstrip".toList.reverse) (o := ['s', 'e', 't', 'y', 'b']) (by kernel_rfl) FB.owner_bytes]; kernel_rfl
theorem slot_split : Slot "bytes" "split" "bytes.split" :=
  .of (owner := "bytes") (n := "split") (by rw [typeLookup_type, builtinLookup_eq_fast]; kernel_rfl) (by decide +kernel) (by decide +kernel) (by decide +kernel)
    (by first | exact .inl (by decide +kernel) | exact .inr (by decide +kernel)) (by rw [isSubtype_type]; kernel_rfl)
theorem type_split : typeOf (.builtin "bytes.split") = pure (.type "method_descriptor") := by show builtinType _ = _; rw [builtinType_eq_fast]; kernel_rfl
theorem entry_split : entryFor table "bytes.split" = some Builtin.«bytes.split» := entryFor_of_tree (by kernel_rfl)
theorem args_split (a b : Value) : argsOk "bytes.split" ⟨[a, b], []⟩ := by
  unfold argsOk; rw [signature?_of (id := "bytes.split") (n := "split".toList.reverse) (o := ['s', 'e', 't', 'y', 'b']) (by kernel_rfl) FB.owner_bytes]; kernel_rfl
theorem slot_join : Slot "bytes" "join" "bytes.join" :=
  .of (owner := "bytes") (n := "join") (by rw [typeLookup_type, builtinLookup_eq_fast]; kernel_rfl) (by decide +kernel) (by decide +kernel) (by decide +kernel)
    (by first | exact .inl (by decide +kernel) | exact .inr (by decide +kernel)) (by rw [isSubtype_type]; kernel_rfl)
theorem type_join : typeOf (.builtin "bytes.join") = pure (.type "method_descriptor") := by show builtinType _ = _; rw [builtinType_eq_fast]; kernel_rfl
theorem entry_join : entryFor table "bytes.join" = some Builtin.«bytes.join» := entryFor_of_tree (by kernel_rfl)
theorem args_join (a b : Value) : argsOk "bytes.join" ⟨[a, b], []⟩ := by
  unfold argsOk; rw [signature?_of (id := "bytes.join") (n := "join".toList.reverse) (o := ['s', 'e', 't', 'y', 'b']) (by kernel_rfl) FB.owner_bytes]; kernel_rfl
theorem sub_bytes_tuple : isSubtype (.type "bytes") (.type "tuple") = pure false := by rw [isSubtype_type]; kernel_rfl
end facts

/-- how many octets sit between; raw value of startswith -/
noncomputable def startsRaw (b sub : Array UInt8) : Bool := if ((b.size : Int) - 0) < sub.size then false else b.extract 0 (0 + sub.size) == sub
noncomputable def endsRaw (b sub : Array UInt8) : Bool := if ((b.size : Int) - 0) < sub.size then false else b.extract (b.size - sub.size) b.size == sub

theorem wlo (n : Nat) : Bytes.window n none none = (0, (n : Int)) := by
  unfold Bytes.window
  simp
  have : ¬ ((n : Int) < 0) := by omega
  simp [this]
section
variable {b c : Array UInt8} {t u : Tok}
theorem gives_starts : Gives («bytes.startswith» ⟨[.bytes b t, .bytes c u], []⟩) (.val (.bool (startsRaw b c))) := by
  refine .of_wp fun M A E s Q hq => ?_
  have hq' : Q (.bool (startsRaw b c)) s := hq
  unfold «bytes.startswith» Bytes.tailMatchM
  refine wpAny_bind (wpAny_of_eq (a := (.bytes b t, [.bytes c u])) rfl ?_)
  refine wpAny_bind (wpAny_of_eq (a := none) rfl ?_)
  refine wpAny_bind (wpAny_of_eq (a := none) rfl ?_)
  refine wpAny_bind (wpAny_of_eq (a := b) rfl ?_)
  rw [wlo]
  refine wpAny_bind (wpAny_isInstance (typeIs_bytes s c u) sub_bytes_tuple ?_)
  rw [if_neg Bool.false_ne_true]
  refine wpAny_bind (wpAny_of_eq KBy.buffer_eq ?_)
  exact wpAny_pure ⟨_, rfl, hq'⟩
theorem gives_ends : Gives («bytes.endswith» ⟨[.bytes b t, .bytes c u], []⟩) (.val (.bool (endsRaw b c))) := by
  refine .of_wp fun M A E s Q hq => ?_
  have hq' : Q (.bool (endsRaw b c)) s := hq
  unfold «bytes.endswith» Bytes.tailMatchM
  refine wpAny_bind (wpAny_of_eq (a := (.bytes b t, [.bytes c u])) rfl ?_)
  refine wpAny_bind (wpAny_of_eq (a := none) rfl ?_)
  refine wpAny_bind (wpAny_of_eq (a := none) rfl ?_)
  refine wpAny_bind (wpAny_of_eq (a := b) rfl ?_)
  rw [wlo]
  refine wpAny_bind (wpAny_isInstance (typeIs_bytes s c u) sub_bytes_tuple ?_)
  rw [if_neg Bool.false_ne_true]
  refine wpAny_bind (wpAny_of_eq KBy.buffer_eq ?_)
  exact wpAny_pure ⟨_, rfl, hq'⟩
/-- where the last one is, -1: nowhere -/
noncomputable def rfindRaw (b c : Array UInt8) : Int := match (if ((b.size : Int) - 0) < c.size then none else some ((0 : Int).toNat, (b.size : Int).toNat)).bind fun (p : Nat × Nat) => Bytes.rfind? b c p.1 p.2 with
  | some i => (i : Int)
  | none => -1
theorem gives_rfind : Gives («bytes.rfind» ⟨[.bytes b t, .bytes c u], []⟩) (.int (rfindRaw b c)) := by
  refine .of_wp fun M A E s Q hq => ?_
  have hq' : Q (.int (rfindRaw b c) s.toks) { s with toks := s.toks + 1 } := hq
  unfold «bytes.rfind» Bytes.searchM Bytes.searchArgs
  refine wpAny_bind ?_
  refine wpAny_bind (wpAny_of_eq (a := (.bytes b t, [.bytes c u])) rfl ?_)
  refine wpAny_bind (wpAny_of_eq (a := none) rfl ?_)
  refine wpAny_bind (wpAny_of_eq (a := none) rfl ?_)
  refine wpAny_bind (wpAny_of_eq KBy.buffer_eq ?_)
  refine wpAny_bind (wpAny_pure ?_)
  refine wpAny_bind (wpAny_of_eq (a := b) rfl ?_)
  rw [wlo]
  refine wpAny_pure ?_
  dsimp only
  unfold rfindRaw at hq'
  simp only [if_true]
  revert hq'
  cases ((if ((b.size : Int) - 0) < c.size then none else some ((0 : Int).toNat, (b.size : Int).toNat)).bind fun (p : Nat × Nat) => Bytes.rfind? b c p.1 p.2) with
  | none => intro hq'; exact wpAny_bind (wpAny_rule (wpAny_bind (wpAny_mkInt (wpAny_pure ⟨_, rfl, hq'⟩))))
  | some i => intro hq'; exact wpAny_bind (wpAny_mkInt (wpAny_pure ⟨_, rfl, hq'⟩))
/-- the right end struck -/
noncomputable def rstripRaw (b c : Array UInt8) : List UInt8 := (b.toList.reverse.dropWhile c.contains).reverse
theorem meets_rstrip : Meets («bytes.rstrip» ⟨[.bytes b t, .bytes c u], []⟩) (fun _ R s => b.size ≤ sizeLine ∧ ∀ t' k, R (.ok (.ret (.bytes (rstripRaw b c).toArray t'))) { s with toks := k }) := by
  refine .of_wp fun prog w A R s hS => ?_
  obtain ⟨hsz, h⟩ := hS
  unfold «bytes.rstrip» Bytes.stripM
  refine wpAny_bind (wpAny_of_eq (a := (.bytes b t, [.bytes c u])) rfl ?_)
  refine wpAny_bind ?_
  unfold Bytes.bytesLike
  refine wpAny_bind ?_
  refine wpAny_of_eq KBy.buffer_eq ?_
  refine wpAny_pure ?_
  refine wpAny_bind (wpAny_pure ?_)
  refine wpAny_bind (wpAny_of_eq (a := b) rfl ?_)
  simp only [if_true, if_neg Bool.false_ne_true]
  by_cases hk : ((b.toList.reverse.dropWhile c.contains).reverse.length == b.size) = true
  · rw [if_pos hk]
    refine wpAny_bind (wpAny_rule (wpAny_bind ?_))
    unfold Bytes.Kind.same
    refine wpAny_bind (wpAny_typeOf (typeIs_bytes s b t) ?_)
    refine wpAny_pure (wpAny_pure ⟨_, rfl, ?_⟩)
    have e : (rstripRaw b c).toArray = b := by
      have h1 : (b.toList.reverse.dropWhile c.contains).length = b.toList.reverse.length := by
        have := beq_iff_eq.mp hk
        simpa using this
      have h2 : b.toList.reverse.dropWhile c.contains = b.toList.reverse := (List.dropWhile_suffix _).eq_of_length h1
      unfold rstripRaw
      rw [h2]; simp
    have := h t s.toks
    rw [e] at this
    exact this
  · rw [if_neg hk]
    refine wpAny_bind ?_
    unfold Bytes.Kind.new
    refine wpAny_mkBytes (wpAny_pure ⟨_, rfl, h s.toks (s.toks + 1)⟩) ?_
    have : (b.toList.reverse.dropWhile c.contains).length ≤ b.toList.reverse.length := (List.dropWhile_suffix _).length_le
    simp only [List.size_toArray, List.length_reverse] at this ⊢
    exact Nat.le_trans this (by simpa using hsz)
end
section
variable {prog : Program} {w : World} {A : Around} {E : Value → Shared → Prop} {s : Shared} {b c : Array UInt8} {t u : Tok} {Q : Value → Shared → Prop}
theorem call_starts (h : Q (.bool (startsRaw b c)) s) : wpAny (model prog w) A (call (.builtin "bytes.startswith") [.bytes b t, .bytes c u]) Q E s :=
  call_meets FB.slot_bytes_startswith (typeIs_bytes _ _ _) FB.entry_bytes_startswith (FB.args_bytes_startswith_2 _ _) gives_starts.meets h
theorem call_ends (h : Q (.bool (endsRaw b c)) s) : wpAny (model prog w) A (call (.builtin "bytes.endswith") [.bytes b t, .bytes c u]) Q E s :=
  call_meets FB.slot_bytes_endswith (typeIs_bytes _ _ _) FB.entry_bytes_endswith (FB.args_bytes_endswith_2 _ _) gives_ends.meets h
theorem call_rfind (h : Q (.int (rfindRaw b c) s.toks) { s with toks := s.toks + 1 }) : wpAny (model prog w) A (call (.builtin "bytes.rfind") [.bytes b t, .bytes c u]) Q E s :=
  call_meets slot_rfind (typeIs_bytes _ _ _) entry_rfind (args_rfind _ _) gives_rfind.meets h
theorem call_rstrip (hz : b.size ≤ 16777216) (h : ∀ t' k, Q (.bytes (rstripRaw b c).toArray t') { s with toks := k }) : wpAny (model prog w) A (call (.builtin "bytes.rstrip") [.bytes b t, .bytes c u]) Q E s :=
  call_meets slot_rstrip (typeIs_bytes _ _ _) entry_rstrip (args_rstrip _ _) meets_rstrip ⟨by rw [sizeLine_eq]; exact hz, h⟩
theorem meth {M : Model} {pl : Sem Bool} {Q : Value × List Value → Shared → Prop} {name : PySem.Str} {id : String} (slot : Slot "bytes" name id) (ty : typeOf (.builtin id) = pure (.type "method_descriptor"))
    (h : Q (.builtin id, [.bytes b t]) s) : wpAny M A (getMethod (.bytes b t) name pl) Q E s :=
  KBd.method_of (.bytes b t) (typeIs_bytes _ _ _) slot ty KBd.noRef h
end
end Mine
end
section
open PySem PySem.W PyProof.Rows PySem.Calls
set_option maxRecDepth 100000
namespace Mine
open PySem.Builtin
theorem nested_str (dep : Int) (tk : Tok) : Builtin.«issubclass.nested» ⟨[.type "bytes", .type "str", .int dep tk], []⟩ = ret (.bool false) := by kernel_rfl
theorem nested_bytes (dep : Int) (tk : Tok) : Builtin.«issubclass.nested» ⟨[.type "bytes", .type "bytes", .int dep tk], []⟩ = ret (.bool true) := by kernel_rfl
theorem sub_tuple_tuple : isSubtype (.type "tuple") (.type "tuple") = pure true := by rw [isSubtype_type]; kernel_rfl
theorem kind_nested : builtinKind "issubclass.nested" = none := by decide +kernel
theorem plain_nested : plainId "issubclass.nested" = true := by decide +kernel
theorem args_nested (a b c : Value) : argsOk "issubclass.nested" ⟨[a, b, c], []⟩ := by unfold argsOk; kernel_rfl
section
variable {prog : Program} {w : World} {A : Around} {E : Value → Shared → Prop} {s : Shared} {b c : Array UInt8} {t u : Tok} {Q : Value → Shared → Prop}
theorem type_bytes (h : Q (.type "bytes") s) : wpAny (model prog w) A (call (.type "type") [.bytes b t]) Q E s := call_type_of (typeIs_bytes s b t) (by decide +kernel) h
theorem gives_nested_str (dep : Int) (tk : Tok) : Gives (Builtin.«issubclass.nested» ⟨[.type "bytes", .type "str", .int dep tk], []⟩) (.val (.bool false)) := by rw [nested_str]; exact Gives.tree (.val (.bool false))
theorem gives_nested_bytes (dep : Int) (tk : Tok) : Gives (Builtin.«issubclass.nested» ⟨[.type "bytes", .type "bytes", .int dep tk], []⟩) (.val (.bool true)) := by rw [nested_bytes]; exact Gives.tree (.val (.bool true))
theorem truthy_b {x : Bool} {M : Model} {Q : Bool → Shared → Prop} (h : Q x s) : wpAny M A (truthy (.bool x)) Q E s := wpAny_of_eq (a := x) (by cases x <;> rfl) h
theorem meets_issub {a : Addr} {n : Nat} : Meets (Builtin.«issubclass» ⟨[.type "bytes", .ref a], []⟩)
    (fun _ R s => s.heap.get? a = some { cls := .type "tuple", data := .seq #[.type "str", .type "bytes"] n } ∧ R (.ok (.ret (.bool true))) s) := by
  intro prog w A R s ⟨ho, hR⟩
  refine issubclass_outer ?_
  have hT : s.TypeIs (.ref a) "tuple" := ⟨_, ho, rfl⟩
  unfold Builtin.«issubclass.nested»
  refine wpAny_bind (wpAny_typeOf hT ?_)
  rw [if_neg (by decide)]
  refine wpAny_bind ?_
  unfold Builtins.unionMembers
  refine wpAny_bind (wpAny_typeOf hT ?_)
  rw [if_neg (by decide)]
  refine wpAny_pure ?_
  refine wpAny_bind (wpAny_isInstance hT sub_tuple_tuple ?_)
  rw [if_pos rfl]
  rw [if_neg (by decide)]
  refine wpAny_bind ?_
  unfold seqItems?
  dsimp only
  refine wpAny_bind (wpAny_load ho ?_)
  refine wpAny_pure ?_
  refine wpAny_bind ?_
  show wpAny _ _ (forIn #[Value.type "str", Value.type "bytes"] _ _) _ _ _
  rw [← Array.forIn_toList]
  show wpAny _ _ (forIn [Value.type "str", Value.type "bytes"] _ _) _ _ _
  rw [List.forIn_cons]
  refine wpAny_bind ?_
  refine wpAny_bind (call_function_meets kind_nested plain_nested F.entry_issubclass_nested (args_nested _ _ _) (gives_nested_str _ _).meets ?_)
  refine wpAny_bind (truthy_b ?_)
  refine wpAny_pure ?_
  dsimp only
  rw [List.forIn_cons]
  refine wpAny_bind ?_
  refine wpAny_bind (call_function_meets kind_nested plain_nested F.entry_issubclass_nested (args_nested _ _ _) (gives_nested_bytes _ _).meets ?_)
  refine wpAny_bind (truthy_b ?_)
  refine wpAny_bind (wpAny_pure (wpAny_pure ?_))
  refine wpAny_pure ?_
  exact wpAny_pure hR
theorem issub_bytes {a : Addr} {n : Nat} (ho : s.heap.get? a = some { cls := .type "tuple", data := .seq #[.type "str", .type "bytes"] n }) (h : Q (.bool true) s) :
    wpAny (model prog w) A (call (.builtin "issubclass") [.type "bytes", .ref a]) Q E s := call_issubclass meets_issub ⟨ho, h⟩
theorem issub_N {h₀ : Heap} {L : Addr} {news : List (Addr × Obj)} {a : Addr} {n : Nat} (N : News h₀ L s.heap news) (hm : (a, ({ cls := .type "tuple", data := .seq #[.type "str", .type "bytes"] n } : Obj)) ∈ news) (h : Q (.bool true) s) :
    wpAny (model prog w) A (call (.builtin "issubclass") [.type "bytes", .ref a]) Q E s := issub_bytes (N _ hm).1 h
end
end Mine
end
section
open PySem PySem.W PyProof.Rows PySem.Calls
set_option maxRecDepth 100000
namespace Mine
section
variable {prog : Program} {w : World} {A : Around} {E : PySem.Value → Shared → Prop} {s : Shared} {value slice : PySem.Expr} {b : Array UInt8} {t : Tok} {h₀ : Heap} {L : Addr} {m : PySem.Str → Option PySem.Value} {news : List (Addr × Obj)} {l u : PySem.Value} {lo hi : Option Int} {Q : PySem.Value → Shared → Prop}
theorem slice_B (hF : Fr h₀ L s.heap m) (hN : News h₀ L s.heap news) (hl : IsPart l lo) (hu : IsPart u hi) (hz : b.size ≤ 16777216)
    (h : ∀ h' t' k, Fr h₀ L h' m → News h₀ L h' news → (KBy.picked b lo hi).size ≤ b.size → Q (.bytes (KBy.picked b lo hi) t') { s with heap := h', toks := k })
    (hs : subscripted slice false (.bytes b t) (.ref s.heap.objs.size) = operate [.ref s.heap.objs.size, .bytes b t] (getItem (.bytes b t) (.ref s.heap.objs.size)) := by with_unfolding_all rfl)
    (ht : ∀ r, letTemporaryGo value (.bytes b t) r = pure () := by intro _; with_unfolding_all rfl) :
    wpAny (model prog w) A (subscriptTail value slice (.bytes b t) (.ref s.heap.objs.size)) Q E { s with heap := s.heap.push { cls := .type "slice", data := .fields #[l, u, .none] } } :=
  KBc.slice_K hF hN rfl hl hu (by rw [KBw.ints_length]; exact hz) (fun h' t' k F N _ => h h' t' k F N (KBc.size_picked_le b lo hi)) hs ht
theorem noI_bytes : typeLookup (.type "bytes") (dunderI "add") = pure none := by rw [typeLookup_type, builtinLookup_eq_fast]; kernel_rfl
theorem iadd_bytes {c : Array UInt8} {u : Tok} (hsz : b.size + c.size ≤ 16777216) (h : ∀ t' k, Q (.bytes (b ++ c) t') { s with toks := k }) : wpAny (model prog w) A (inplaceOp .Add (.bytes b t) (.bytes c u)) Q E s := by
  refine iconcat_gives (typeIs_bytes s b t) (typeIs_bytes s c u) noI_bytes KBy.noFill_bytes_add KBy.seq_bytes_add FB.slot_bytes_add FB.entry_bytes_add (FB.args_bytes_add_2 _ _) (KBy.gives_bytes_add (KBy.tooLong_not hsz)) ?_
  by_cases hb : b.isEmpty = true
  · rw [if_pos hb]
    have h' := h u s.toks
    rw [Array.isEmpty_iff.1 hb, Array.empty_append] at h'
    exact h'
  · rw [if_neg hb]
    by_cases hc : c.isEmpty = true
    · rw [if_pos hc]
      have h' := h t s.toks
      rw [Array.isEmpty_iff.1 hc, Array.append_empty] at h'
      exact h'
    · rw [if_neg hc]
      exact ⟨by rw [Array.size_append, sizeLine_eq]; exact hsz, h s.toks (s.toks + 1)⟩
/-- so many of one octet -/
theorem mul_one {c : UInt8} {n : Int} {u : Tok} (hlo : 0 ≤ n) (hn : n ≤ 1048576) (h : ∀ t' k, Q (.bytes (List.replicate n.toNat c).toArray t') { s with toks := k }) :
    wpAny (model prog w) A (binaryOp .Mult (.bytes #[c] t) (.int n u)) Q E s := by
  refine bytes_mul_any (b := [c]) (by simp) (by omega) hn (by simp) fun t' k => ?_
  have : (List.replicate n.toNat [c]).flatten = List.replicate n.toNat c := by
    generalize n.toNat = j
    induction j with
    | zero => rfl
    | succ j ih => rw [List.replicate_succ, List.flatten_cons, ih]; rfl
  rw [this]
  exact h t' k
end
section
variable {M : Model} {A : Around} {E : PySem.Value → Shared → Prop} {s : Shared} {env : Env}
/-- a try whose body does not raise -/
theorem Try_calm {body : List Stmt} {hs : List ExceptHandler} {pos : Pos} {Q : Flow → Shared → Prop} (h : wpAny M A (execs body env) Q (fun _ _ => False) s) : wpAny M A (exec (.Try body hs [] [] pos) env) Q E s := by
  show wpAny M A (do standAt pos; tryStmt false (execs body env) hs (execs [] env) [] env) Q E s
  refine wpAny_bind (wpAny_standAt ?_)
  unfold tryStmt
  refine wpAny_bind (wpAny_attempt (wpAny_mono h (fun f s' hf => ?_) fun _ _ x => x.elim))
  cases f with
  | next => exact wpAny_pure hf
  | brk => exact wpAny_pure hf
  | cont => exact wpAny_pure hf
  | ret v => exact wpAny_pure hf
end
end Mine
end
section
open PySem PySem.W PyProof.Rows PySem.Calls
set_option maxRecDepth 100000
namespace Mine
open PySem.Builtin
/-- values that are these octets -/
inductive BytesAre : List Value → List (Array UInt8) → Prop where
  | nil : BytesAre [] []
  | cons {b : Array UInt8} {t : Tok} {vs : List Value} {bs : List (Array UInt8)} : BytesAre vs bs → BytesAre (.bytes b t :: vs) (b :: bs)
theorem BytesAre.length : ∀ {vs : List Value} {bs : List (Array UInt8)}, BytesAre vs bs → vs.length = bs.length
  | _, _, .nil => rfl
  | _, _, .cons h => by rw [List.length_cons, List.length_cons, h.length]
theorem BytesAre.get : ∀ {vs : List Value} {bs : List (Array UInt8)}, BytesAre vs bs → ∀ {i : Nat} {b : Array UInt8}, bs[i]? = some b → ∃ t, vs[i]? = some (.bytes b t)
  | _, _, .nil, i, b, h => by simp at h
  | _, _, .cons (t := t) h, 0, b, e => by simp at e; exact ⟨t, by simp [e]⟩
  | _, _, .cons h, i + 1, b, e => by simpa using h.get (by simpa using e)
theorem BytesAre.snoc {b : Array UInt8} {t : Tok} : ∀ {vs : List Value} {bs : List (Array UInt8)}, BytesAre vs bs → BytesAre (vs ++ [.bytes b t]) (bs ++ [b])
  | _, _, .nil => .cons .nil
  | _, _, .cons h => .cons h.snoc
theorem BytesAre.take : ∀ {vs : List Value} {bs : List (Array UInt8)}, BytesAre vs bs → ∀ n, BytesAre (vs.take n) (bs.take n)
  | _, _, .nil, n => by simp; exact .nil
  | _, _, .cons h, 0 => .nil
  | _, _, .cons h, n + 1 => .cons (h.take n)
theorem BytesAre.drop : ∀ {vs : List Value} {bs : List (Array UInt8)}, BytesAre vs bs → ∀ n, BytesAre (vs.drop n) (bs.drop n)
  | _, _, .nil, n => by simp; exact .nil
  | _, _, .cons h, 0 => .cons h
  | _, _, .cons h, n + 1 => h.drop n
theorem BytesAre.app : ∀ {vs : List Value} {bs : List (Array UInt8)} {ws : List Value} {cs : List (Array UInt8)}, BytesAre vs bs → BytesAre ws cs → BytesAre (vs ++ ws) (bs ++ cs)
  | _, _, _, _, .nil, k => k
  | _, _, _, _, .cons h, k => .cons (h.app k)
theorem BytesAre.rev : ∀ {vs : List Value} {bs : List (Array UInt8)}, BytesAre vs bs → BytesAre vs.reverse bs.reverse
  | _, _, .nil => .nil
  | _, _, .cons h => by rw [List.reverse_cons, List.reverse_cons]; exact h.rev.snoc
section
variable {M : Model} {A : Around} {E : Value → Shared → Prop}
theorem mapM_new {Q : List Value → Shared → Prop} : ∀ (bs : List (Array UInt8)) (s : Shared), (∀ b ∈ bs, b.size ≤ sizeLine) → (∀ vs k, BytesAre vs bs → Q vs { s with toks := k }) → wpAny M A (bs.mapM Bytes.Kind.bytes.new) Q E s := by
  intro bs
  induction bs generalizing Q with
  | nil => intro s _ h; exact wpAny_pure (h [] s.toks .nil)
  | cons b r ih =>
    intro s hz h
    rw [List.mapM_cons]
    refine wpAny_bind ?_
    refine wpAny_mkBytes ?_ (hz b List.mem_cons_self)
    refine wpAny_bind (ih _ (fun c hc => hz c (List.mem_cons_of_mem _ hc)) fun vs k hv => wpAny_pure ?_)
    exact h _ _ (.cons hv)
end
/-- the pieces between the separators -/
noncomputable def placesRaw (b c : Array UInt8) : List Nat := (Bytes.occurrences b c 0 b.size).take (b.size + 1)
noncomputable def splitRaw (b c : Array UInt8) : List (Array UInt8) := if (placesRaw b c).isEmpty = true then [b] else Bytes.between b c.size (placesRaw b c)
section
variable {b c : Array UInt8} {t u : Tok}
theorem meets_split (hc : c.isEmpty = false) : Meets («bytes.split» ⟨[.bytes b t, .bytes c u], []⟩) (fun A R s => b.size ≤ sizeLine ∧ (∀ x ∈ splitRaw b c, x.size ≤ sizeLine) ∧ ∀ prog w, ∀ vs k, BytesAre vs (splitRaw b c) → wpAny (model prog w) A.in1 (newList vs) (fun v s' => R (.ok (.ret v)) s') (fun e s' => R (.error e) s') { s with toks := k }) := by
  refine .of_wp fun prog w A R s hS => ?_
  obtain ⟨hsz, hss, h⟩ := hS
  have h := h prog w
  unfold «bytes.split» Bytes.splitM
  have hb : Bytes.bindOptional (toString Bytes.Kind.bytes.name ++ toString "." ++ toString "split") "split" ["sep", "maxsplit"] [.bytes c u] [] = pure [some (.bytes c u), none] := by kernel_rfl
  dsimp only
  refine wpAny_bind (wpAny_of_eq hb ?_)
  dsimp only
  refine wpAny_bind (wpAny_pure ?_)
  refine wpAny_bind (wpAny_of_eq (a := b) rfl ?_)
  unfold Bytes.bytesLike
  refine wpAny_bind ?_
  refine wpAny_bind (wpAny_of_eq KBy.buffer_eq ?_)
  refine wpAny_pure ?_
  rw [if_neg (ne_true_of_eq_false hc)]
  have e1 : (if (-1 : Int) < 0 then b.size + 1 else (-1 : Int).toNat) = b.size + 1 := rfl
  simp only [e1, if_neg Bool.false_ne_true]
  unfold splitRaw placesRaw at hss h
  by_cases hp : ((Bytes.occurrences b c 0 b.size).take (b.size + 1)).isEmpty = true
  · rw [if_pos hp] at hss h ⊢
    refine wpAny_bind (wpAny_rule ?_)
    refine wpAny_bind ?_
    unfold Bytes.Kind.same
    refine wpAny_bind (wpAny_typeOf (typeIs_bytes s b t) ?_)
    rw [if_pos (by decide)]
    refine wpAny_pure ?_
    refine wpAny_bind ?_
    exact wpAny_mono (h [.bytes b t] s.toks (.cons .nil)) (fun v s' hv => wpAny_pure ⟨_, rfl, hv⟩) fun _ _ x => x
  · rw [if_neg hp] at hss h ⊢
    refine wpAny_bind ?_
    refine mapM_new _ _ hss fun vs k hv => ?_
    refine wpAny_bind ?_
    exact wpAny_mono (h vs k hv) (fun v s' hv => wpAny_pure ⟨_, rfl, hv⟩) fun _ _ x => x
end
section
variable {prog : Program} {w : World} {A : Around} {E : Value → Shared → Prop} {s : Shared} {b c : Array UInt8} {t u : Tok} {Q : Value → Shared → Prop} {h₀ : Heap} {L : Addr} {m : Str → Option Value} {news : List (Addr × Obj)}
theorem call_split (F : Fr h₀ L s.heap m) (N : News h₀ L s.heap news) (hc : c.isEmpty = false) (hz : b.size ≤ 16777216) (hss : ∀ x ∈ splitRaw b c, x.size ≤ 16777216) (hn : (splitRaw b c).length ≤ 16777216)
    (h : ∀ l h' vs k, BytesAre vs (splitRaw b c) → Fr h₀ L h' m → News h₀ L h' ((l, listOf vs.toArray 0) :: news) → (∀ p ∈ news, p.1 < l) → Q (.ref l) { s with heap := h', toks := k }) :
    wpAny (model prog w) A (call (.builtin "bytes.split") [.bytes b t, .bytes c u]) Q E s :=
  call_meets slot_split (typeIs_bytes _ _ _) entry_split (args_split _ _) (meets_split hc) ⟨by rw [sizeLine_eq]; exact hz, fun x hx => by rw [sizeLine_eq]; exact hss x hx, fun prog w vs k hv =>
    newList_K (s := { s with toks := k }) F N (fun l h' F' N' lt => h l h' vs k hv F' N' lt) (by rw [sizeLine_eq, hv.length]; exact hn)⟩
end
end Mine
end
section
open PySem PySem.W PyProof.Rows PySem.Calls
set_option maxRecDepth 100000
namespace Mine
open PySem.Builtin
section
variable {M : Model} {A : Around} {E : Value → Shared → Prop}
theorem forIn_list_inv {α β : Type} (f : α → β → Sem (ForInStep β)) {Q : β → Shared → Prop} : ∀ (l : List α) (I : Nat → β → Shared → Prop) (b : β) (s : Shared),
    (∀ i a b s, l[i]? = some a → I i b s → wpAny M A (f a b) (fun r s' => ∃ b', r = .yield b' ∧ I (i + 1) b' s') E s) → I 0 b s → (∀ b s, I l.length b s → Q b s) → wpAny M A (forIn l b f) Q E s
  | [], I, b, s, _, h0, fin => by rw [List.forIn_nil]; exact wpAny_pure (fin b s h0)
  | a :: l, I, b, s, step, h0, fin => by
    rw [List.forIn_cons]
    refine wpAny_bind (wpAny_mono (step 0 a b s rfl h0) (fun r s' hr => ?_) fun _ _ x => x)
    obtain ⟨b', rfl, hI⟩ := hr
    exact forIn_list_inv f l (fun i => I (i + 1)) b' s' (fun i a b s hi => step (i + 1) a b s (by simpa using hi)) hI (fun b s h => fin b s (by simpa using h))
theorem forIn_range_inv {β : Type} (f : Nat → β → Sem (ForInStep β)) {Q : β → Shared → Prop} {n : Nat} (I : Nat → β → Shared → Prop) {b : β} {s : Shared}
    (step : ∀ i b s, i < n → I i b s → wpAny M A (f i b) (fun r s' => ∃ b', r = .yield b' ∧ I (i + 1) b' s') E s) (h0 : I 0 b s) (fin : ∀ b s, I n b s → Q b s) : wpAny M A (forIn [:n] b f) Q E s := by
  rw [Std.Legacy.Range.forIn_eq_forIn_range']
  refine forIn_list_inv f _ I b s (fun i a b s hi hI => ?_) h0 (fun b s h => fin b s (by simpa [Std.Legacy.Range.size] using h))
  have hlt : i < n := by
    have := (List.getElem?_eq_some_iff.mp hi).1
    simpa [Std.Legacy.Range.size] using this
  have : a = i := by
    have h := List.getElem?_eq_some_iff.mp hi
    obtain ⟨h1, h2⟩ := h
    simp at h2
    exact h2.symm
  subst this
  exact step _ b s hlt hI
theorem joinLetGo_none {Q : Unit → Shared → Prop} : ∀ (vs : List Value) (keep : List Value) (s : Shared), Q () s → wpAny M A (Bytes.joinLetGo (vs.map fun v => (v, none)) keep) Q E s
  | [], _, s, h => wpAny_pure h
  | v :: vs, keep, s, h => by
    show wpAny M A (letGo [v] _ >>= fun _ => Bytes.joinLetGo (vs.map fun v => (v, none)) keep) Q E s
    exact wpAny_bind (wpAny_letGo (joinLetGo_none vs keep s h))
end
section
variable {b c : Array UInt8} {t u : Tok}
theorem take_quiet {id : String} : Bytes.takeBufferQuiet? id (.bytes b t) 0 = pure (some (b, none)) := by
  have h : Bytes.takeBuffer? id (.bytes b t) 0 = pure (some (b, none)) := by
    unfold Bytes.takeBuffer?
    rw [KBy.special_eq KBy.look_buffer, KBy.own_buffer]
    simp only [pure_bind]
    show (do let r ← Bytes.buffer? id (.bytes b t); pure _) = _
    rw [KBy.buffer_eq]
    rfl
  unfold Bytes.takeBufferQuiet?
  rw [h]
  rfl
theorem joined_one (sep x : Array UInt8) : Bytes.joined sep [x] = x := by simp [Bytes.joined]
theorem getD_bytes {vs : List Value} {bs : List (Array UInt8)} (hv : BytesAre vs bs) {i : Nat} (hi : i < vs.length) : ∃ x tk, bs[i]? = some x ∧ vs.toArray.getD i Value.none = .bytes x tk ∧ vs[i]? = some (.bytes x tk) := by
  have hb : i < bs.length := by rw [← hv.length]; exact hi
  obtain ⟨tk, e⟩ := hv.get (List.getElem?_eq_getElem hb)
  refine ⟨bs[i], tk, List.getElem?_eq_getElem hb, ?_, e⟩
  rw [Array.getD_eq_getD_getElem?]
  simp [e]
theorem meets_join {a : Addr} {vs : List Value} {n : Nat} {bs : List (Array UInt8)} (hv : BytesAre vs bs) :
    Meets («bytes.join» ⟨[.bytes b t, .ref a], []⟩) (fun _ R s => s.heap.get? a = some (listOf vs.toArray n) ∧ Bytes.tooLong (bs.foldl (· + ·.size) (b.size * (bs.length - 1))) = false ∧ (Bytes.joined b bs).size ≤ sizeLine ∧ ∀ t' k, R (.ok (.ret (.bytes (Bytes.joined b bs) t'))) { s with toks := k }) := by
  refine .of_wp fun prog w A R s hS => ?_
  obtain ⟨ho, hlong, hsz, h⟩ := hS
  have hT : s.TypeIs (.ref a) "list" := ⟨_, ho, rfl⟩
  unfold «bytes.join» Bytes.joinM
  refine wpAny_bind (wpAny_of_eq (a := (.bytes b t, .ref a)) rfl ?_)
  dsimp only
  rw [if_pos (by decide)]
  refine wpAny_bind ?_
  unfold Bytes.joinItems
  refine wpAny_bind (wpAny_typeOf hT ?_)
  rw [if_pos (by decide)]
  refine wpAny_pure ?_
  refine wpAny_bind ?_
  unfold seqItems?
  dsimp only
  refine wpAny_bind (wpAny_load ho ?_)
  refine wpAny_pure ?_
  dsimp only
  rw [if_pos (by decide)]
  have loop : ∀ (f : Nat → Array (Array UInt8) × List (Value × Option Value) → Sem (ForInStep (Array (Array UInt8) × List (Value × Option Value)))) (rest : Array (Array UInt8) × List (Value × Option Value) → Sem PySem.Fin),
      (∀ i x tk, i < vs.length → vs[i]? = some (.bytes x tk) → wpAny (model prog w) A.in1 (f i ((bs.take i).toArray, (vs.take i).map fun v => (v, none))) (fun r s' => r = .yield ((bs.take i).toArray.push x, ((vs.take i).map fun v => (v, none)) ++ [(.bytes x tk, none)]) ∧ s' = s) (fun e s' => R (.error e) s') s) →
      wpAny (model prog w) A.in1 (rest (bs.toArray, vs.map fun v => (v, none))) (fun fin s' => ∃ v, fin = PySem.Fin.done (.ret v) ∧ R (.ok (.ret v)) s') (fun e s' => R (.error e) s') s →
      wpAny (model prog w) A.in1 (forIn [:vs.toArray.size] ((#[] : Array (Array UInt8)), ([] : List (Value × Option Value))) f >>= rest) (fun fin s' => ∃ v, fin = PySem.Fin.done (.ret v) ∧ R (.ok (.ret v)) s') (fun e s' => R (.error e) s') s := by
    intro f rest step fin
    refine wpAny_bind (forIn_range_inv f (fun i st s' => st = ((bs.take i).toArray, (vs.take i).map fun v => (v, none)) ∧ s' = s) ?_ ⟨rfl, rfl⟩ ?_)
    · rintro i st s' hi ⟨rfl, rfl⟩
      obtain ⟨x, tk, e1, _, e3⟩ := getD_bytes hv (i := i) (by simpa using hi)
      refine wpAny_mono (step i x tk (by simpa using hi) e3) (fun r s'' hr => ?_) fun _ _ x => x
      obtain ⟨rfl, rfl⟩ := hr
      refine ⟨_, rfl, ?_, rfl⟩
      rw [List.take_add_one, e1, List.take_add_one, e3]
      simp
    · rintro st s' ⟨rfl, rfl⟩
      have e1 : bs.take vs.toArray.size = bs := List.take_of_length_le (by rw [List.size_toArray, hv.length]; exact Nat.le_refl _)
      have e2 : vs.take vs.toArray.size = vs := List.take_of_length_le (by simp)
      rw [e1, e2]
      exact fin
  have fin : ∀ (e : Bytes.joined b bs = Bytes.joined b bs.toArray.toList), wpAny (model prog w) A.in1 (do
        let result ← Bytes.Kind.bytes.new (Bytes.joined b bs.toArray.toList)
        holding (result :: List.flatMap (fun x => x.fst :: x.snd.toList) (vs.map fun v => (v, (none : Option Value)))) point
        Bytes.joinLetGo (vs.map fun v => (v, none)) [result]
        ret result) (fun fin s' => ∃ v, fin = PySem.Fin.done (.ret v) ∧ R (.ok (.ret v)) s') (fun e s' => R (.error e) s') s := by
    intro e
    refine wpAny_bind (wpAny_mkBytes ?_ hsz)
    refine wpAny_bind (wpAny_holding (wpAny_point ?_))
    refine wpAny_bind (joinLetGo_none _ _ _ ?_)
    exact wpAny_pure ⟨_, rfl, h _ _⟩
  have hl2 : ¬ Bytes.tooLong (Array.foldl (fun x1 x2 => x1 + x2.size) (b.size * (bs.toArray.size - 1)) bs.toArray) = true := by
    have e : Array.foldl (fun x1 (x2 : Array UInt8) => x1 + x2.size) (b.size * (bs.toArray.size - 1)) bs.toArray = bs.foldl (· + ·.size) (b.size * (bs.length - 1)) := by simp
    rw [e]
    exact ne_true_of_eq_false hlong
  have hany : ∀ i, ¬ ((Bytes.Kind.bytes == Bytes.Kind.bytearray || ((vs.take i).map fun v => (v, (none : Option Value))).any fun x => x.fst.onHeap) = true) := by
    intro i
    have : ∀ {vs : List Value} {bs : List (Array UInt8)}, BytesAre vs bs → (vs.map fun v => (v, (none : Option Value))).any (fun x => x.fst.onHeap) = false := by
      intro vs bs hv
      induction hv with
      | nil => rfl
      | cons _ ih => rw [List.map_cons, List.any_cons, ih]; rfl
    rw [this (hv.take i)]
    decide
  cases hv with
  | nil =>
    refine loop _ _ ?_ ?_
    · intro i x tk hi e; simp at hi
    · refine wpAny_bind (wpAny_of_eq (a := b) rfl ?_)
      dsimp only
      rw [if_neg hl2]
      exact fin rfl
  | cons hv' =>
    cases hv' with
    | nil =>
      rename_i bb tt
      refine wpAny_bind (wpAny_typeOf (typeIs_bytes s bb tt) ?_)
      rw [if_pos (by decide)]
      refine wpAny_bind (wpAny_rule ?_)
      have := h tt s.toks
      rw [joined_one] at this
      exact wpAny_pure ⟨_, rfl, this⟩
    | cons hv' =>
      refine loop _ _ ?_ ?_
      · intro i x tk hi e
        refine wpAny_bind ?_
        refine wpAny_bind (wpAny_load ho ?_)
        refine wpAny_pure ?_
        dsimp only
        rw [if_neg (hany i)]
        have hget : ∀ {l : List Value}, l[i]? = some (.bytes x tk) → l.toArray.getD i Value.none = .bytes x tk := fun e => by rw [Array.getD_eq_getD_getElem?]; simp [e]
        rw [hget e]
        refine wpAny_bind (wpAny_holding (wpAny_of_eq take_quiet ?_))
        dsimp only
        refine wpAny_bind ?_
        refine wpAny_bind (wpAny_load ho ?_)
        refine wpAny_pure ?_
        dsimp only
        rw [if_neg (by simp)]
        exact wpAny_pure ⟨rfl, rfl⟩
      · refine wpAny_bind (wpAny_of_eq (a := b) rfl ?_)
        dsimp only
        rw [if_neg hl2]
        exact fin rfl
end
section
variable {prog : Program} {w : World} {A : Around} {E : Value → Shared → Prop} {s : Shared} {b : Array UInt8} {t : Tok} {Q : Value → Shared → Prop}
theorem call_join {a : Addr} {vs : List Value} {n : Nat} {bs : List (Array UInt8)} (hv : BytesAre vs bs) (ho : s.heap.get? a = some (listOf vs.toArray n)) (hl : bs.foldl (· + ·.size) (b.size * (bs.length - 1)) ≤ 16777216) (hz : (Bytes.joined b bs).size ≤ 16777216)
    (h : ∀ t' k, Q (.bytes (Bytes.joined b bs) t') { s with toks := k }) : wpAny (model prog w) A (call (.builtin "bytes.join") [.bytes b t, .ref a]) Q E s :=
  call_meets slot_join (typeIs_bytes _ _ _) entry_join (args_join _ _) (meets_join hv) ⟨ho, KBy.tooLong_not hl, by rw [sizeLine_eq]; exact hz, h⟩
end
end Mine
end
section
open PySem PySem.W PyProof.Rows PySem.Calls
set_option maxRecDepth 100000
namespace Mine
open PySem.Builtin
theorem between_facts (b : Array UInt8) (w : Nat) : ∀ (ps : List Nat) (parts : Array (Array UInt8)) (last : Nat), (∀ x ∈ parts.toList, x.size ≤ b.size) →
    (∀ x ∈ ((ps.foldl (fun (st : Array (Array UInt8) × Nat) p => (st.1.push (b.extract st.2 p), p + w)) (parts, last)).1.push (b.extract (ps.foldl (fun (st : Array (Array UInt8) × Nat) p => (st.1.push (b.extract st.2 p), p + w)) (parts, last)).2 b.size)).toList, x.size ≤ b.size) ∧
      ((ps.foldl (fun (st : Array (Array UInt8) × Nat) p => (st.1.push (b.extract st.2 p), p + w)) (parts, last)).1).size = parts.size + ps.length
  | [], parts, last, h => by
    refine ⟨fun x hx => ?_, by simp⟩
    simp only [List.foldl_nil, Array.toList_push, List.mem_append, List.mem_singleton] at hx
    rcases hx with hx | rfl
    · exact h x hx
    · simp only [Array.size_extract]; omega
  | p :: ps, parts, last, h => by
    have := between_facts b w ps (parts.push (b.extract last p)) (p + w) (fun x hx => by
      simp only [Array.toList_push, List.mem_append, List.mem_singleton] at hx
      rcases hx with hx | rfl
      · exact h x hx
      · simp only [Array.size_extract]; omega)
    refine ⟨this.1, ?_⟩
    have h2 := this.2
    rw [List.foldl_cons, List.length_cons]
    rw [Array.size_push] at h2
    refine Eq.trans h2 ?_
    omega
theorem split_size {b c x : Array UInt8} (h : x ∈ splitRaw b c) : x.size ≤ b.size := by
  unfold splitRaw at h
  split at h
  · rw [List.mem_singleton.mp h]; exact Nat.le_refl _
  · exact (between_facts b c.size (placesRaw b c) #[] 0 (by simp)).1 x h
theorem split_len {b c : Array UInt8} : (splitRaw b c).length ≤ b.size + 2 := by
  unfold splitRaw
  split
  · simp
  · have h2 := (between_facts b c.size (placesRaw b c) #[] 0 (by simp)).2
    have h3 : (placesRaw b c).length ≤ b.size + 1 := by unfold placesRaw; rw [List.length_take]; omega
    show ((_ : Array (Array UInt8)).push _).toList.length ≤ _
    rw [Array.length_toList, Array.size_push]
    refine Nat.le_trans (Nat.add_le_add_right (Nat.le_of_eq h2) 1) ?_
    simp only [List.size_toArray, List.length_nil, Nat.zero_add]
    omega
section
variable {prog : Program} {w : World} {A : Around} {E : Value → Shared → Prop} {s : Shared} {b c : Array UInt8} {t u : Tok} {Q : Value → Shared → Prop} {h₀ : Heap} {L : Addr} {m : Str → Option Value} {news : List (Addr × Obj)}
theorem call_split1 {o : UInt8} (F : Fr h₀ L s.heap m) (N : News h₀ L s.heap news) (hz : b.size ≤ 1000000)
    (h : ∀ l h' vs k, BytesAre vs (splitRaw b #[o]) → vs.length ≤ b.size + 2 → Fr h₀ L h' m → News h₀ L h' ((l, listOf vs.toArray 0) :: news) → (∀ p ∈ news, p.1 < l) → Q (.ref l) { s with heap := h', toks := k }) :
    wpAny (model prog w) A (call (.builtin "bytes.split") [.bytes b t, .bytes #[o] u]) Q E s :=
  call_split F N rfl (by omega) (fun x hx => by have := split_size hx; omega) (by have := @split_len b #[o]; omega) fun l h' vs k hv F' N' lt => h l h' vs k hv (by rw [hv.length]; exact split_len) F' N' lt
end
end Mine
end
section
open PySem PySem.W PyProof.Rows PySem.Calls
set_option maxRecDepth 100000
namespace Mine
section
variable {prog : Program} {w : World} {A : Around} {E : Value → Shared → Prop} {s : Shared} {Q : Value → Shared → Prop} {h₀ : Heap} {L : Addr} {m : Str → Option Value} {news : List (Addr × Obj)} {a : Addr} {vs : List Value} {n : Nat}
theorem isL (N : News h₀ L s.heap news) (hm : (a, listOf vs.toArray n) ∈ news) : s.heap.IsList a vs.toArray := ⟨_, (N _ hm).1, rfl, _, rfl⟩
theorem len_L (N : News h₀ L s.heap news) (hm : (a, listOf vs.toArray n) ∈ news) (hz : vs.length ≤ 1000000) (h : ∀ t k, Q (.int (vs.length : Int) t) { s with toks := k }) : wpAny (model prog w) A (call (.builtin "len") [.ref a]) Q E s :=
  len_list (isL N hm) (by simp only [List.size_toArray]; omega) (by simpa using h _ _)
theorem item_L {value slice : Expr} {k : Int} {u : Tok} {v : Value} (N : News h₀ L s.heap news) (hm : (a, listOf vs.toArray n) ∈ news) (h0 : 0 ≤ k) (hk : k < 2 ^ 63) (hx : vs[k.toNat]? = some v) (h : Q v s)
    (hs : subscripted slice false (.ref a) (.int k u) = operate [.ref a, .int k u] (getItem (.ref a) (.int k u)) := by with_unfolding_all rfl) :
    wpAny (model prog w) A (subscriptTail value slice (.ref a) (.int k u)) Q E s :=
  tail_any (isL N hm).typeIs slot_list_getitem.lookup (wpAny_getItem_list (isL N hm) h0 hk (by simpa using hx) h) hs
end
end Mine
end
section
open PySem PySem.W PyProof.Rows PySem.Calls
set_option maxRecDepth 100000
namespace Mine
open AutoSeq1 (wpAny_loadPart')
open MeetsSeq MeetsSeq3
theorem EqGives.bytes (b c : Array UInt8) (t u : Tok) : EqGives (.bytes b t) (.bytes c u) (b.toList == c.toList) := by
  intro prog w A E s Q h
  unfold eqBool
  refine wpAny_holding ?_
  by_cases hab : (Value.bytes b t == Value.bytes c u) = true
  · rw [if_pos hab]
    have e : b = c := by have := eq_of_beq hab; injection this
    subst e
    exact wpAny_bind (wpAny_rule (wpAny_pure (by simpa using h)))
  · rw [if_neg hab]
    exact wpAny_bind (wpAny_mono (eq_bytes (b := b) (c := c) (t := t) (u := u) (Q := fun v s' => v = .bool (b.toList == c.toList) ∧ s' = s) (E := fun _ _ => False) ⟨rfl, rfl⟩) (fun v s' hv => by obtain ⟨rfl, rfl⟩ := hv; exact wpAny_truthy_bool h) fun _ _ x => x.elim)
theorem slot_bytes_lt : Slot "bytes" (cmpInfo .Lt).2.1 "bytes.__lt__" :=
  .of (owner := "bytes") (n := "__lt__") (by rw [typeLookup_type, builtinLookup_eq_fast]; kernel_rfl) (by decide +kernel) (by decide +kernel) (by decide +kernel)
    (by first | exact .inl (by decide +kernel) | exact .inr (by decide +kernel)) (by rw [isSubtype_type]; kernel_rfl)
theorem entry_bytes_lt : entryFor table "bytes.__lt__" = some Builtin.«bytes.__lt__» := entryFor_of_tree (by kernel_rfl)
theorem args_bytes_lt (a b : Value) : argsOk "bytes.__lt__" ⟨[a, b], []⟩ := by
  unfold argsOk; rw [signature?_of (id := "bytes.__lt__") (n := "__lt__".toList.reverse) (o := ['s', 'e', 't', 'y', 'b']) (by kernel_rfl) FB.owner_bytes]; kernel_rfl
theorem slot_bytes_gt : Slot "bytes" (cmpInfo .Gt).2.1 "bytes.__gt__" :=
  .of (owner := "bytes") (n := "__gt__") (by rw [typeLookup_type, builtinLookup_eq_fast]; kernel_rfl) (by decide +kernel) (by decide +kernel) (by decide +kernel)
    (by first | exact .inl (by decide +kernel) | exact .inr (by decide +kernel)) (by rw [isSubtype_type]; kernel_rfl)
theorem entry_bytes_gt : entryFor table "bytes.__gt__" = some Builtin.«bytes.__gt__» := entryFor_of_tree (by kernel_rfl)
theorem args_bytes_gt (a b : Value) : argsOk "bytes.__gt__" ⟨[a, b], []⟩ := by
  unfold argsOk; rw [signature?_of (id := "bytes.__gt__") (n := "__gt__".toList.reverse) (o := ['s', 'e', 't', 'y', 'b']) (by kernel_rfl) FB.owner_bytes]; kernel_rfl
/-- two rows of octets, in order -/
noncomputable def ordL : List (Array UInt8) → List (Array UInt8) → Ordering
  | [], [] => .eq
  | [], _ :: _ => .lt
  | _ :: _, [] => .gt
  | x :: xs, y :: ys => if x.toList == y.toList then ordL xs ys else Builtin.Bytes.order x.toList y.toList
theorem gives_bytes_lt (b c : Array UInt8) (t u : Tok) : Gives (Builtin.«bytes.__lt__» ⟨[.bytes b t, .bytes c u], []⟩) (.val (.bool (Builtin.Bytes.order b.toList c.toList == .lt))) := by
  refine .of_wp fun M A E s Q hq => ?_
  show wpAny M A (isInstance (.bytes c u) (.type "bytes") >>= fun r => _) _ E s
  refine wpAny_bind (wpAny_isInstance (typeIs_bytes s c u) F.sub_bytes_bytes ?_)
  exact wpAny_pure ⟨_, rfl, hq⟩
theorem gives_bytes_gt (b c : Array UInt8) (t u : Tok) : Gives (Builtin.«bytes.__gt__» ⟨[.bytes b t, .bytes c u], []⟩) (.val (.bool (Builtin.Bytes.order b.toList c.toList == .gt))) := by
  refine .of_wp fun M A E s Q hq => ?_
  show wpAny M A (isInstance (.bytes c u) (.type "bytes") >>= fun r => _) _ E s
  refine wpAny_bind (wpAny_isInstance (typeIs_bytes s c u) F.sub_bytes_bytes ?_)
  exact wpAny_pure ⟨_, rfl, hq⟩
section
variable {prog : Program} {w : World} {A : Around} {E : Value → Shared → Prop} {s : Shared} {b c : Array UInt8} {t u : Tok} {Q : Value → Shared → Prop}
theorem rc_lt (h : Q (.bool (Builtin.Bytes.order b.toList c.toList == .lt)) s) : wpAny (model prog w) A (richCompare .Lt (.bytes b t) (.bytes c u)) Q E s :=
  richCompare_gives (op := .Lt) (typeIs_bytes s b t) (typeIs_bytes s c u) slot_bytes_lt entry_bytes_lt (args_bytes_lt _ _) (gives_bytes_lt b c t u) (fun e => nomatch e) h
theorem rc_gt (h : Q (.bool (Builtin.Bytes.order b.toList c.toList == .gt)) s) : wpAny (model prog w) A (richCompare .Gt (.bytes b t) (.bytes c u)) Q E s :=
  richCompare_gives (op := .Gt) (typeIs_bytes s b t) (typeIs_bytes s c u) slot_bytes_gt entry_bytes_gt (args_bytes_gt _ _) (gives_bytes_gt b c t u) (fun e => nomatch e) h
end
theorem BytesAre.arr {vs : List Value} {bs : List (Array UInt8)} (hv : BytesAre vs bs) {i : Nat} (hi : i < bs.length) : ∃ t, vs.toArray[((i : Nat) : Int).toNat]? = some (.bytes bs[i] t) := by
  obtain ⟨t, e⟩ := hv.get (List.getElem?_eq_getElem hi)
  exact ⟨t, by simpa using e⟩
theorem lt_loop (l b : Addr) (n n2 : Nat) {vs us : List Value} {xs ys : List (Array UInt8)} (hv : BytesAre vs xs) (hu : BytesAre us ys) (k : Nat) :
    ∀ i : Nat, xs.length - i = k → i ≤ xs.length → i ≤ ys.length → Meets (Builtin.«list.__eq__.loop» ⟨[.ref l, .ref b, rawInt i, rawInt 0], []⟩)
      (fun _ R s => s.heap.get? l = some (listOf vs.toArray n) ∧ s.heap.get? b = some (listOf us.toArray n2) ∧
        R (.ok (.ret (.bool (ordL (xs.drop i) (ys.drop i) == .lt)))) s) := by
  have hvl := hv.length
  have hul := hu.length
  induction k with
  | zero =>
    intro i hk h1 h2 prog w A R s h
    obtain ⟨hp, g, d, tk, os⟩ := s; obtain ⟨hl, hb, h⟩ := h
    simp only [W.listOf] at hl hb
    wp_walk using wpAny_loadPart' hl, wpAny_loadPart' hb
    have hi1 : vs.toArray[((i : Nat) : Int).toNat]? = none := by simp; omega
    have hd : xs.drop i = [] := by simp; omega
    rw [hd] at h
    rw [hi1]
    wp_walk using wpAny_loadPart' hl, wpAny_loadPart' hb
    show R (.ok (.ret (.bool (decide (vs.toArray.size < us.toArray.size))))) _
    have e : (ordL [] (ys.drop i) == .lt) = decide (vs.toArray.size < us.toArray.size) := by
      simp only [List.size_toArray, hvl, hul]
      by_cases hlt : i < ys.length
      · rw [List.drop_eq_getElem_cons hlt]
        have : xs.length < ys.length := by omega
        simp [ordL, this]
      · have : ys.drop i = [] := by simp; omega
        rw [this]
        have : ¬ xs.length < ys.length := by omega
        simp [ordL, this]
    rw [← e]; exact h
  | succ k ih =>
    intro i hk h1 h2 prog w A R s h
    obtain ⟨hp, g, d, tk, os⟩ := s; obtain ⟨hl, hb, h⟩ := h
    simp only [W.listOf] at hl hb
    wp_walk using wpAny_loadPart' hl, wpAny_loadPart' hb
    have hlt : i < xs.length := by omega
    obtain ⟨t1, hi1⟩ := hv.arr hlt
    by_cases hlt2 : i < ys.length
    · obtain ⟨t2, hi2⟩ := hu.arr hlt2
      have hc : ((i : Int) + 1) = ((i + 1 : Nat) : Int) := by push_cast; rfl
      rw [List.drop_eq_getElem_cons hlt, List.drop_eq_getElem_cons hlt2, ordL] at h
      rw [hi1, hi2]
      refine wpAny_bind (EqGives.bytes _ _ t1 t2 prog w _ _ _ _ ?_)
      cases hb' : (xs[i].toList == ys[i].toList) with
      | true =>
        rw [hb', if_pos rfl] at h
        wp_walk
        rw [hc]
        exact ⟨plainId_quiet plain_eq_loop _, codeAny_builtin entry_eq_loop (by
          rw [Around.under_plainId plain_eq_loop _]
          exact ih (i + 1) (by omega) (by omega) (by omega) prog w A R _ ⟨hl, hb, h⟩)⟩
      | false =>
        rw [hb', if_neg (by decide)] at h
        wp_walk using wpAny_loadPart' hl, wpAny_loadPart' hb
        rw [hi1, hi2]
        dsimp only
        refine wpAny_bind (rc_lt ?_)
        exact wpAny_pure h
    · have hi2 : us.toArray[((i : Nat) : Int).toNat]? = none := by simp; omega
      have hd : ys.drop i = [] := by simp; omega
      rw [hd, List.drop_eq_getElem_cons hlt] at h
      rw [hi1, hi2]
      wp_walk using wpAny_loadPart' hl, wpAny_loadPart' hb
      show R (.ok (.ret (.bool (decide (vs.toArray.size < us.toArray.size))))) _
      have e : (ordL (xs[i] :: xs.drop (i + 1)) [] == .lt) = decide (vs.toArray.size < us.toArray.size) := by
        simp only [List.size_toArray, hvl, hul]
        have : ¬ xs.length < ys.length := by omega
        simp [ordL, this]
      rw [← e]; exact h
theorem list_lt (l b : Addr) (n n2 : Nat) {vs us : List Value} {xs ys : List (Array UInt8)} (hv : BytesAre vs xs) (hu : BytesAre us ys) :
    Meets (Builtin.«list.__lt__» ⟨[.ref l, .ref b], []⟩)
      (fun _ R s => s.heap.get? l = some (listOf vs.toArray n) ∧ s.heap.get? b = some (listOf us.toArray n2) ∧ R (.ok (.ret (.bool (ordL xs ys == .lt)))) s) := by
  intro prog w A R s h
  obtain ⟨hp, g, d, tk, os⟩ := s; obtain ⟨hl, hb, h⟩ := h
  have hl' := hl
  have hb' := hb
  simp only [W.listOf] at hl hb
  have f3 := AutoSeq1.sub_list_list
  wp_walk using wpAny_loadPart' hl, wpAny_loadPart' hb
  exact ⟨plainId_quiet plain_eq_loop _, codeAny_builtin entry_eq_loop (by
    rw [Around.under_plainId plain_eq_loop _]
    exact lt_loop l b n n2 hv hu _ 0 rfl (Nat.zero_le _) (Nat.zero_le _) prog w A R _ ⟨hl', hb', by simpa using h⟩)⟩
section
variable {prog : Program} {w : World} {A : Around} {E : Value → Shared → Prop} {s : Shared} {Q : Value → Shared → Prop}
theorem rcL_lt {l b : Addr} {n n2 : Nat} {vs us : List Value} {xs ys : List (Array UInt8)} (hv : BytesAre vs xs) (hu : BytesAre us ys) (hl : s.heap.get? l = some (listOf vs.toArray n)) (hb : s.heap.get? b = some (listOf us.toArray n2))
    (hr : A.units < cLine) (h : Q (.bool (ordL xs ys == .lt)) s) : wpAny (model prog w) A (richCompare .Lt (.ref l) (.ref b)) Q E s :=
  wpAny_richCompare_same_room (op := .Lt) (⟨_, hl, rfl⟩ : s.TypeIs (.ref l) "list") (⟨_, hb, rfl⟩ : s.TypeIs (.ref b) "list") F.slot_list_lt
    (call_meets F.slot_list_lt (⟨_, hl, rfl⟩ : s.TypeIs (.ref l) "list") F.entry_list_lt (F.args_list_lt_2 _ _) (list_lt l b n n2 hv hu) ⟨hl, hb, (fun e => nomatch e), h⟩) hr
end
theorem gt_loop (l b : Addr) (n n2 : Nat) {vs us : List Value} {xs ys : List (Array UInt8)} (hv : BytesAre vs xs) (hu : BytesAre us ys) (k : Nat) :
    ∀ i : Nat, xs.length - i = k → i ≤ xs.length → i ≤ ys.length → Meets (Builtin.«list.__eq__.loop» ⟨[.ref l, .ref b, rawInt i, rawInt 4], []⟩)
      (fun _ R s => s.heap.get? l = some (listOf vs.toArray n) ∧ s.heap.get? b = some (listOf us.toArray n2) ∧
        R (.ok (.ret (.bool (ordL (xs.drop i) (ys.drop i) == .gt)))) s) := by
  have hvl := hv.length
  have hul := hu.length
  induction k with
  | zero =>
    intro i hk h1 h2 prog w A R s h
    obtain ⟨hp, g, d, tk, os⟩ := s; obtain ⟨hl, hb, h⟩ := h
    simp only [W.listOf] at hl hb
    wp_walk using wpAny_loadPart' hl, wpAny_loadPart' hb
    have hi1 : vs.toArray[((i : Nat) : Int).toNat]? = none := by simp; omega
    have hd : xs.drop i = [] := by simp; omega
    rw [hd] at h
    rw [hi1]
    wp_walk using wpAny_loadPart' hl, wpAny_loadPart' hb
    show R (.ok (.ret (.bool (decide (vs.toArray.size > us.toArray.size))))) _
    have e : (ordL [] (ys.drop i) == .gt) = decide (vs.toArray.size > us.toArray.size) := by
      simp only [List.size_toArray, hvl, hul]
      by_cases hlt : i < ys.length
      · rw [List.drop_eq_getElem_cons hlt]
        have : ¬ xs.length > ys.length := by omega
        simp [ordL, this]
      · have : ys.drop i = [] := by simp; omega
        rw [this]
        have : ¬ xs.length > ys.length := by omega
        simp [ordL, this]
    rw [← e]; exact h
  | succ k ih =>
    intro i hk h1 h2 prog w A R s h
    obtain ⟨hp, g, d, tk, os⟩ := s; obtain ⟨hl, hb, h⟩ := h
    simp only [W.listOf] at hl hb
    wp_walk using wpAny_loadPart' hl, wpAny_loadPart' hb
    have hlt : i < xs.length := by omega
    obtain ⟨t1, hi1⟩ := hv.arr hlt
    by_cases hlt2 : i < ys.length
    · obtain ⟨t2, hi2⟩ := hu.arr hlt2
      have hc : ((i : Int) + 1) = ((i + 1 : Nat) : Int) := by push_cast; rfl
      rw [List.drop_eq_getElem_cons hlt, List.drop_eq_getElem_cons hlt2, ordL] at h
      rw [hi1, hi2]
      refine wpAny_bind (EqGives.bytes _ _ t1 t2 prog w _ _ _ _ ?_)
      cases hb' : (xs[i].toList == ys[i].toList) with
      | true =>
        rw [hb', if_pos rfl] at h
        wp_walk
        rw [hc]
        exact ⟨plainId_quiet plain_eq_loop _, codeAny_builtin entry_eq_loop (by
          rw [Around.under_plainId plain_eq_loop _]
          exact ih (i + 1) (by omega) (by omega) (by omega) prog w A R _ ⟨hl, hb, h⟩)⟩
      | false =>
        rw [hb', if_neg (by decide)] at h
        wp_walk using wpAny_loadPart' hl, wpAny_loadPart' hb
        rw [hi1, hi2]
        dsimp only
        refine wpAny_bind (rc_gt ?_)
        exact wpAny_pure h
    · have hi2 : us.toArray[((i : Nat) : Int).toNat]? = none := by simp; omega
      have hd : ys.drop i = [] := by simp; omega
      rw [hd, List.drop_eq_getElem_cons hlt] at h
      rw [hi1, hi2]
      wp_walk using wpAny_loadPart' hl, wpAny_loadPart' hb
      show R (.ok (.ret (.bool (decide (vs.toArray.size > us.toArray.size))))) _
      have e : (ordL (xs[i] :: xs.drop (i + 1)) [] == .gt) = decide (vs.toArray.size > us.toArray.size) := by
        simp only [List.size_toArray, hvl, hul]
        have : xs.length > ys.length := by omega
        simp [ordL, this]
      rw [← e]; exact h
theorem list_gt (l b : Addr) (n n2 : Nat) {vs us : List Value} {xs ys : List (Array UInt8)} (hv : BytesAre vs xs) (hu : BytesAre us ys) :
    Meets (Builtin.«list.__gt__» ⟨[.ref l, .ref b], []⟩)
      (fun _ R s => s.heap.get? l = some (listOf vs.toArray n) ∧ s.heap.get? b = some (listOf us.toArray n2) ∧ R (.ok (.ret (.bool (ordL xs ys == .gt)))) s) := by
  intro prog w A R s h
  obtain ⟨hp, g, d, tk, os⟩ := s; obtain ⟨hl, hb, h⟩ := h
  have hl' := hl
  have hb' := hb
  simp only [W.listOf] at hl hb
  have f3 := AutoSeq1.sub_list_list
  wp_walk using wpAny_loadPart' hl, wpAny_loadPart' hb
  exact ⟨plainId_quiet plain_eq_loop _, codeAny_builtin entry_eq_loop (by
    rw [Around.under_plainId plain_eq_loop _]
    exact gt_loop l b n n2 hv hu _ 0 rfl (Nat.zero_le _) (Nat.zero_le _) prog w A R _ ⟨hl', hb', by simpa using h⟩)⟩
section
variable {prog : Program} {w : World} {A : Around} {E : Value → Shared → Prop} {s : Shared} {Q : Value → Shared → Prop}
theorem rcL_gt {l b : Addr} {n n2 : Nat} {vs us : List Value} {xs ys : List (Array UInt8)} (hv : BytesAre vs xs) (hu : BytesAre us ys) (hl : s.heap.get? l = some (listOf vs.toArray n)) (hb : s.heap.get? b = some (listOf us.toArray n2))
    (hr : A.units < cLine) (h : Q (.bool (ordL xs ys == .gt)) s) : wpAny (model prog w) A (richCompare .Gt (.ref l) (.ref b)) Q E s :=
  wpAny_richCompare_same_room (op := .Gt) (⟨_, hl, rfl⟩ : s.TypeIs (.ref l) "list") (⟨_, hb, rfl⟩ : s.TypeIs (.ref b) "list") F.slot_list_gt
    (call_meets F.slot_list_gt (⟨_, hl, rfl⟩ : s.TypeIs (.ref l) "list") F.entry_list_gt (F.args_list_gt_2 _ _) (list_gt l b n n2 hv hu) ⟨hl, hb, (fun e => nomatch e), h⟩) hr
end
end Mine
end
section
open PySem PySem.W PyProof.Rows PySem.Calls
set_option maxRecDepth 100000
namespace Mine
/-- the codes that may hold a bytearray -/
noncomputable def holdIds : List String := ["bytearray.__contains__", "bytearray.__mod__", "bytearray.__rmod__", "_struct.pack_into.held", "bytearray.find.held"] ++ Builtin.Bytes.decodersThatHold
/-- a code that holds no bytearray -/
noncomputable def calm : Code → Bool
  | .builtin id _ => !(holdIds.contains id)
  | _ => true
/-- a set of contexts that is kept by calm codes -/
structure Kept (P : Ctx → Prop) : Prop where
  goto : ∀ Γ c, calm c = true → P Γ → P (Γ.goto c)
  enter : ∀ Γ c h p, calm c = true → P Γ → P (Γ.enter c h p)
noncomputable def Every : Ctx → Prop := fun _ => True
theorem every_kept : Kept Every := ⟨fun _ _ _ _ => trivial, fun _ _ _ _ _ _ => trivial⟩
/-- no code of the context's holds a bytearray -/
noncomputable def Clean (Γ : Ctx) : Prop := calm Γ.code = true ∧ ∀ x ∈ Γ.below, calm x.1 = true
theorem clean_kept : Kept Clean := ⟨fun _ _ hc h => ⟨hc, h.2⟩, fun _ _ _ _ hc h => ⟨hc, fun x hx => by
  rcases List.mem_cons.mp hx with rfl | hx
  · exact h.1
  · exact h.2 x hx⟩⟩
noncomputable def wpP (P : Ctx → Prop) {α : Type} (M : Model) (A : Around) (t : Sem α) (Q : α → Shared → Prop) (E : Value → Shared → Prop) (s : Shared) : Prop :=
  ∀ Γ p, Γ.In A → P Γ → Sem.wp M Γ t (fun a _ s' => Q a s') (fun e _ s' => E e s') p s
noncomputable def codeP (P : Ctx → Prop) (M : Model) (A : Around) (c : Code) (R : Result → Shared → Prop) (s : Shared) : Prop :=
  ∀ Γ p, Γ.code = c → Γ.Below A → P Γ → wpCode M Γ R p s
section
variable {P : Ctx → Prop} {α β : Type} {M : Model} {A : Around} {E : Value → Shared → Prop} {s : Shared}
theorem wpP.of_any {t : Sem α} {Q : α → Shared → Prop} (h : wpAny M A t Q E s) : wpP P M A t Q E s := fun Γ p hΓ _ => h Γ p hΓ
theorem wpP.any {t : Sem α} {Q : α → Shared → Prop} (h : wpP Every M A t Q E s) : wpAny M A t Q E s := fun Γ p hΓ => h Γ p hΓ trivial
theorem codeP.of_any {c : Code} {R : Result → Shared → Prop} (h : codeAny M A c R s) : codeP P M A c R s := fun Γ p hc hΓ _ => h Γ p hc hΓ
theorem codeP.any {c : Code} {R : Result → Shared → Prop} (h : codeP Every M A c R s) : codeAny M A c R s := fun Γ p hc hΓ => h Γ p hc hΓ trivial
theorem wpP_pure {a : α} {Q : α → Shared → Prop} (h : Q a s) : wpP P M A (pure a) Q E s := fun _ _ _ _ => h
theorem wpP_mono {t : Sem α} {Q Q' : α → Shared → Prop} {E' : Value → Shared → Prop} (h : wpP P M A t Q E s)
    (hQ : ∀ a s, Q a s → Q' a s) (hE : ∀ e s, E e s → E' e s) : wpP P M A t Q' E' s :=
  fun Γ p hΓ hP => Sem.wp_mono M Γ t (fun a _ s => hQ a s) (fun e _ s => hE e s) p s (h Γ p hΓ hP)
theorem wpP_bind {m : Sem α} {f : α → Sem β} {Q : β → Shared → Prop} (h : wpP P M A m (fun a s' => wpP P M A (f a) Q E s') E s) :
    wpP P M A (m >>= f) Q E s := fun Γ p hΓ hP => by
  rw [Sem.wp_bind']
  exact Sem.wp_mono M Γ m (fun a p' s' h' => h' Γ p' hΓ hP) (fun _ _ _ h' => h') p s (h Γ p hΓ hP)
/-- a first step that any context takes -/
theorem wpP_bindA {m : Sem α} {f : α → Sem β} {Q : β → Shared → Prop} (h : wpAny M A m (fun a s' => wpP P M A (f a) Q E s') E s) :
    wpP P M A (m >>= f) Q E s := wpP_bind (.of_any h)
theorem wpP_onRaise {m : Sem α} {k : Value → Sem Unit} {Q : α → Shared → Prop} (h : wpP P M A m Q (fun _ _ => False) s) : wpP P M A (m.onRaise k) Q E s := fun Γ p hΓ hP => by
  rw [Sem.wp_onRaise]
  exact Sem.wp_mono M Γ m (fun _ _ _ h' => h') (fun _ _ _ h' => h'.elim) p s (h Γ p hΓ hP)
theorem wpP_attempt {m : Sem α} {Q : Except Value α → Shared → Prop} (h : wpP P M A m (fun a => Q (.ok a)) (fun e => Q (.error e)) s) :
    wpP P M A m.attempt Q E s := fun Γ p hΓ hP => by rw [Sem.wp_attempt]; exact h Γ p hΓ hP
theorem wpP_holding {vs : List Value} {m : Sem α} {Q : α → Shared → Prop} (h : wpP P M A m Q E s) : wpP P M A (holding vs m) Q E s :=
  fun Γ p hΓ hP => by rw [Sem.wp_holding]; exact h Γ p hΓ hP
theorem wpP_keep {vs : List Value} {m : Sem α} {Q : α → Shared → Prop} (h : wpP P M A m Q E s) : wpP P M A (m.keep vs) Q E s :=
  fun Γ p hΓ hP => by rw [Sem.wp_keep]; exact h Γ p hΓ hP
theorem wpP_standAt {pos : Pos} {Q : Unit → Shared → Prop} (h : Q () s) : wpP P M A (standAt pos) Q E s := .of_any (wpAny_standAt h)
theorem wpP_run (K : Kept P) {c : Code} {h : Option Value} {Q : Flow → Shared → Prop} (hc : calm c = true)
    (hk : codeP P M (A.mark h) c (fun r s' => match r with | .ok f => Q f s' | .error e => E e s') s) (hnb : h ≠ some byPass := by intro x; cases x) :
    wpP P M A (run c h) Q E s :=
  fun Γ p hΓ hP => by rw [Sem.wp_run]; exact hk _ p rfl (hΓ.enter c h p hnb) (K.enter _ _ _ _ hc hP)
theorem wpP_runValue (K : Kept P) {c : Code} {Q : Value → Shared → Prop} (hc : calm c = true)
    (hk : codeP P M A c (fun r s' => match r with | .ok (.ret v) => Q v s' | .ok _ => False | .error e => E e s') s) :
    wpP P M A (runValue c) Q E s := fun Γ p hΓ hP => by rw [Sem.wp_runValue]; exact hk _ p rfl (hΓ.enter c none p (by intro x; cases x)) (K.enter _ _ _ _ hc hP)
theorem wpP_call (K : Kept P) {f : Value} {pos : List Value} {kw : List (Str × Value)} {Q : Value → Shared → Prop}
    (hk : codeP P M A (.call f ⟨pos, kw⟩) (fun r s' => match r with | .ok (.ret v) => Q v s' | .ok _ => False | .error e => E e s') s) :
    wpP P M A (call f pos kw) Q E s := wpP_runValue K rfl hk
theorem wpP_runOwn (K : Kept P) {c : Code} {env : Env} {Q : Flow → Shared → Prop} (hc : calm c = true)
    (hk : codeP P M A c (fun r s' => match r with | .ok f => Q f s' | .error _ => False) s) : wpP P M A (runOwn c env) Q E s := by
  unfold runOwn
  exact wpP_onRaise (wpP_run K hc hk)
theorem codeP_mono {c : Code} {R R' : Result → Shared → Prop} (h : codeP P M A c R s) (hR : ∀ r s, R r s → R' r s) : codeP P M A c R' s :=
  fun Γ p hc hΓ hP => wpCode_mono hR (h Γ p hc hΓ hP)
theorem codeP_of_tree (K : Kept P) {c : Code} {R : Result → Shared → Prop}
    (h : wpP P M (A.under c) (M.den c) (fun fin s' => match fin with | .done f => R (.ok f) s' | .again c' => c'.quiet = true ∧ calm c' = true ∧ codeP P M A c' R s')
      (fun e s' => R (.error e) s') s) : codeP P M A c R s := fun Γ p hc hΓ hP => by
  rw [wpCode_iff_wp, hc]
  refine Sem.wp_mono M Γ _ (fun fin p' s' h' => ?_) (fun _ _ _ h' => h') p s (h Γ p (hc ▸ hΓ.in) hP)
  cases fin with
  | done f => exact h'
  | again c' => exact ⟨h'.1, h'.2.2 (Γ.goto c') p' rfl (hΓ.goto c') (K.goto _ _ h'.2.1 hP)⟩
theorem codeP_loop (K : Kept P) {c : Code} {R : Result → Shared → Prop} (hq : c.quiet = true) (hc : calm c = true) (I : Nat → Shared → Prop)
    (turn : ∀ n s, I n s → wpP P M (A.under c) (M.den c)
      (fun fin s' => match fin with | .done f => R (.ok f) s' | .again c' => (c' = c ∧ ∃ m, m < n ∧ I m s') ∨ (c'.quiet = true ∧ calm c' = true ∧ codeP P M A c' R s')) (fun e s' => R (.error e) s') s)
    (n : Nat) (h : I n s) : codeP P M A c R s := by
  induction n using Nat.strongRecOn generalizing s with
  | ind n ih =>
    refine codeP_of_tree K (wpP_mono (turn n s h) (fun fin s' hf => ?_) fun _ _ h' => h')
    cases fin with
    | done f => exact hf
    | again c' =>
      rcases hf with ⟨rfl, m, hm, hI⟩ | hf
      · exact ⟨hq, hc, ih m hm hI⟩
      · exact hf
end
end Mine
end
section
open PySem PySem.W PyProof.Rows PySem.Calls
set_option maxRecDepth 100000
namespace Mine
section
variable {P : Ctx → Prop} {prog : Program} {w : World} {A : Around} {E : Value → Shared → Prop} {s : Shared} {env : Env}
theorem for_walk (K : Kept P) {target : Expr} {body : List Stmt} {I : Addr} {fp wr : List Addr} {n : Nat} {Pv : Nat → Value → Prop} {St : Nat → Heap → Prop} {R : Result → Shared → Prop}
    (W : Walks prog w A I fp wr n Pv St) (J : Nat → Shared → Prop) (hJ : ∀ i s, J i s → St i s.heap)
    (turn : ∀ i s v h' tk, i < n → J i s → Pv i v → St (i + 1) h' → (∀ b o, b ∉ wr → s.heap.get? b = some o → h'.get? b = some o) →
      wpAny (model prog w) A (assign target env v) (fun _ s₂ => wpP P (model prog w) A (execs body env) (fun f s₃ => match f with
        | .next | .cont => J (i + 1) s₃
        | .brk => R (.ok .next) s₃
        | .ret v => R (.ok (.ret v)) s₃) (fun _ _ => False) s₂) (fun _ _ => False) { s with heap := h', toks := tk })
    (done : ∀ s h' tk, J n s → (∀ b o, b ∉ wr → s.heap.get? b = some o → h'.get? b = some o) → R (.ok .next) { s with heap := h', toks := tk })
    (h0 : J 0 s) (ht : ∀ v, letOwnedTupleGo target (.ref I) v = pure () := by intro _; rfl) :
    codeP P (model prog w) A (.forLoop target (.ref I) body [] env) R s := by
  refine codeP_loop K rfl rfl (fun k s' => ∃ i, J i s' ∧ i ≤ n ∧ k = n + 1 - i) ?_ (n + 1) ⟨0, h0, Nat.zero_le _, rfl⟩
  rintro k s' ⟨i, hi, hin, rfl⟩
  rw [Around.under_of_weight (A := A) (c := .forLoop target (.ref I) body [] env) rfl]
  show wpP P _ A ((forTurn target (.ref I) body [] env).onRaise (fun x => do noteFrame x env; theTreesLotGoes x)) _ _ s'
  refine wpP_onRaise ?_
  unfold forTurn
  refine wpP_bind (wpP_standAt (wpP_bind (wpP_onRaise ?_)))
  by_cases hlt : i < n
  · refine .of_any (W.item i s' _ _ hlt (hJ _ _ hi) fun v h' tk hv st hk => ?_)
    dsimp only
    refine wpP_bindA (wpAny_of_eq (ht v) ?_)
    refine wpP_bindA (wpAny_mono (turn i s' v h' tk hlt hi hv st hk) (fun _ s₂ h₂ => wpP_bind (wpP_mono h₂ (fun f s₃ h₃ => ?_) fun _ _ x => x.elim)) fun _ _ x => x.elim)
    cases f with
    | next => exact wpP_pure (.inl ⟨rfl, _, by omega, i + 1, h₃, hlt, rfl⟩)
    | cont => exact wpP_pure (.inl ⟨rfl, _, by omega, i + 1, h₃, hlt, rfl⟩)
    | brk => exact wpP_pure h₃
    | ret v => exact wpP_pure h₃
  · obtain rfl : i = n := by omega
    refine .of_any (W.done s' _ _ (hJ _ _ hi) fun h' tk hk => ?_)
    refine wpP_pure (.inr ⟨rfl, rfl, ?_⟩)
    refine codeP_of_tree K ?_
    rw [Around.under_of_weight (A := A) (c := .block [] env) rfl]
    show wpP P _ A ((execs [] env).onRaise (fun x => do noteFrame x env; theTreesLotGoes x) >>= fun f => pure (PySem.Fin.done f)) _ _ _
    refine wpP_bind (wpP_onRaise (wpP_pure (wpP_pure (done s' h' tk hi hk))))
theorem For_walk (K : Kept P) {target iter : Expr} {body : List Stmt} {pos : Pos} {Q : Flow → Shared → Prop}
    (h : wpAny (model prog w) A (eval iter env) (fun x s₁ => wpAny (model prog w) A (pyIter x) (fun it s₂ =>
      codeP P (model prog w) A (.forLoop target it body [] env) (fun r s' => match r with | .ok f => Q f s' | .error _ => False) s₂) E s₁) E s)
    (hs : ∀ x, foldedSetIterable iter env x = pure x := by intro _; rfl) :
    wpP P (model prog w) A (exec (.For target iter body [] pos) env) Q E s := by
  rw [exec_For]
  refine wpP_bind (wpP_standAt (wpP_bindA (wpAny_mono h (fun x s₁ h₁ => ?_) fun _ _ h' => h')))
  refine wpP_bindA (wpAny_of_eq (hs x) ?_)
  refine wpP_bind (wpP_standAt (wpP_bindA (wpAny_holding (wpAny_mono h₁ (fun it s₂ h₂ => ?_) fun _ _ h' => h'))))
  exact wpP_runOwn K rfl h₂
/-- what a turn leaves -/
noncomputable def TurnEnd (h₀ : Heap) (L : Addr) (s : Shared) (I : Addr) (oI : Obj) (J : (Str → Option Value) → List (Addr × Obj) → Prop) (s₃ : Shared) : Prop :=
  ∃ h' tk' m' news', s₃ = { s with heap := h', toks := tk' } ∧ Fr h₀ L h' m' ∧ News h₀ L h' ((I, oI) :: news') ∧ (∀ p ∈ news', p.1 ≠ I) ∧ J m' news'
theorem TurnEnd.intro {h₀ : Heap} {L : Addr} {s : Shared} {I : Addr} {oI : Obj} {J : (Str → Option Value) → List (Addr × Obj) → Prop} {h' : Heap} {tk' : Nat} {m' : Str → Option Value} {all : List (Addr × Obj)} (news' : List (Addr × Obj))
    (F : Fr h₀ L h' m') (N : News h₀ L h' all) (sub : ∀ p ∈ (I, oI) :: news', p ∈ all) (off : ∀ p ∈ news', p.1 ≠ I) (hJ : J m' news') : TurnEnd h₀ L s I oI J { s with heap := h', toks := tk' } :=
  ⟨h', tk', m', news', rfl, F, fun p hp => N p (sub p hp), off, hJ⟩
/-- the loop with a frame and a ledger: the iterator stands in the ledger, J says what holds between the turns -/
theorem for_led (K : Kept P) {h₀ : Heap} {L : Addr} {target : Expr} {body : List Stmt} {I : Addr} {keep : List (Addr × Obj)} {n : Nat} {Pv : Nat → Value → Prop} {St : Nat → Heap → Prop} {Q : Flow → Shared → Prop} {m : Str → Option Value} {news : List (Addr × Obj)}
    (W : Walks prog w A I (I :: keep.map (·.1)) [I] n Pv St) (hIL : L ≠ I) (hI₀ : h₀.get? I = none) (hIo : ∀ i h, St i h → ∃ o, h.get? I = some o)
    (J : Nat → (Str → Option Value) → List (Addr × Obj) → Prop) (hkeep : ∀ i m nw, J i m nw → ∀ p ∈ keep, p ∈ nw)
    (hst : St 0 s.heap) (F : Fr h₀ L s.heap m) (N : News h₀ L s.heap news) (hoff : ∀ p ∈ news, p.1 ≠ I) (h0 : J 0 m news)
    (turn : ∀ i v m₁ news₁ h₁ tk₁ oI, i < n → Pv i v → J i m₁ news₁ → (∀ p ∈ news₁, p.1 ≠ I) → Fr h₀ L h₁ m₁ → News h₀ L h₁ ((I, oI) :: news₁) →
      wpAny (model prog w) A (assign target env v) (fun _ s₂ => wpP P (model prog w) A (execs body env) (fun f s₃ => match f with
        | .next | .cont => TurnEnd h₀ L s I oI (J (i + 1)) s₃
        | .brk => Q .next s₃
        | .ret v => Q (.ret v) s₃) (fun _ _ => False) s₂) (fun _ _ => False) { s with heap := h₁, toks := tk₁ })
    (fin : ∀ h' tk m' news', Fr h₀ L h' m' → News h₀ L h' news' → (∀ p ∈ news', p.1 ≠ I) → J n m' news' → Q .next { s with heap := h', toks := tk })
    (ht : ∀ v, letOwnedTupleGo target (.ref I) v = pure () := by intro _; rfl) :
    codeP P (model prog w) A (.forLoop target (.ref I) body [] env) (fun r s' => match r with | .ok f => Q f s' | .error _ => False) s := by
  have next : ∀ {h₁ h₂ : Heap} {m₁ : Str → Option Value} {nw : List (Addr × Obj)}, Fr h₀ L h₁ m₁ → News h₀ L h₁ nw → (∀ p ∈ nw, p.1 ≠ I) → (∀ b o, b ∉ [I] → h₁.get? b = some o → h₂.get? b = some o) → Fr h₀ L h₂ m₁ ∧ News h₀ L h₂ nw := fun F N off k =>
    ⟨⟨F.ns.at' fun o e => k _ o (by simpa using hIL) e, fun b o e => k b o (fun hb => by rw [List.mem_singleton.mp hb, hI₀] at e; cases e) (F.keep b o e), F.above⟩,
      fun p hp => ⟨k _ _ (by simpa using off p hp) (N p hp).1, (N p hp).2⟩⟩
  refine for_walk K W (fun i s' => ∃ h' tk m' news', s' = { s with heap := h', toks := tk } ∧ St i h' ∧ Fr h₀ L h' m' ∧ News h₀ L h' news' ∧ (∀ p ∈ news', p.1 ≠ I) ∧ J i m' news')
    (fun i s' ⟨h', tk, m', news', e, st, _⟩ => by subst e; exact st) ?_ ?_ ⟨s.heap, s.toks, m, news, rfl, hst, F, N, hoff, h0⟩ ht
  · rintro i s' v h₂ tk₂ hi ⟨h₁, tk₁, m₁, news₁, rfl, st, F₁, N₁, off₁, hJ⟩ hv st₂ hk
    obtain ⟨F₂, N₂⟩ := next F₁ N₁ off₁ hk
    obtain ⟨oI, hoI⟩ := hIo _ _ st₂
    have N₂' : News h₀ L h₂ ((I, oI) :: news₁) := fun p hp => by
      rcases List.mem_cons.mp hp with rfl | hp
      · exact ⟨hoI, Ne.symm hIL, hI₀⟩
      · exact N₂ p hp
    refine wpAny_mono (turn i v m₁ news₁ h₂ tk₂ oI hi hv hJ off₁ F₂ N₂') (fun _ s₂ h₂' => wpP_mono h₂' (fun f s₃ h₃ => ?_) fun _ _ x => x) fun _ _ x => x
    have back : TurnEnd h₀ L s I oI (J (i + 1)) s₃ →
        ∃ h' tk m' news', s₃ = { s with heap := h', toks := tk } ∧ St (i + 1) h' ∧ Fr h₀ L h' m' ∧ News h₀ L h' news' ∧ (∀ p ∈ news', p.1 ≠ I) ∧ J (i + 1) m' news' := by
      clear h₃
      rintro ⟨h₄, tk₃, m₃, news₃, rfl, F₃, N₃, off₃, hJ₃⟩
      refine ⟨h₄, tk₃, m₃, news₃, rfl, W.frame _ _ _ st₂ fun b hb o e => ?_, F₃, fun p hp => N₃ p (List.mem_cons_of_mem _ hp), off₃, hJ₃⟩
      rcases List.mem_cons.mp hb with rfl | hb
      · have := (N₃ (b, oI) List.mem_cons_self).1
        rw [hoI] at e; cases e; exact this
      · obtain ⟨p, hp, rfl⟩ := List.mem_map.mp hb
        have h1 := (N₂ p (hkeep _ _ _ hJ p hp)).1
        have h2 := (N₃ p (List.mem_cons_of_mem _ (hkeep _ _ _ hJ₃ p hp))).1
        rw [h1] at e; cases e; exact h2
    cases f with
    | next => exact back h₃
    | cont => exact back h₃
    | brk => exact h₃
    | ret v => exact h₃
  · rintro s' h₂ tk₂ ⟨h₁, tk₁, m₁, news₁, rfl, st, F₁, N₁, off₁, hJ⟩ hk
    obtain ⟨F₂, N₂⟩ := next F₁ N₁ off₁ hk
    exact fin h₂ tk₂ m₁ news₁ F₂ N₂ off₁ hJ
end
end Mine
end
section
open PySem PySem.W PyProof.Rows PySem.Calls
set_option maxRecDepth 100000
namespace Mine
abbrev tupObj (vs : List Value) (k : Nat) : Obj := { cls := .type "tuple", data := .seq vs.toArray k }
abbrev lstObj (vs : List Value) (k : Nat) : Obj := { cls := .type "list", data := .seq vs.toArray k }
section
variable {P : Ctx → Prop} {prog : Program} {w : World} {A : Around} {E : Value → Shared → Prop} {s : Shared} {env : Env} {h₀ : Heap} {L : Addr} {m : Str → Option Value} {news : List (Addr × Obj)} {target iter : Expr} {body : List Stmt} {pos : Pos} {Q : Flow → Shared → Prop}
/-- one turn of a loop, and what it leaves for the next -/
abbrev TurnTo (P : Ctx → Prop) (prog : Program) (w : World) (A : Around) (env : Env) (h₀ : Heap) (L : Addr) (body : List Stmt) (Q : Flow → Shared → Prop) (s : Shared) (I : Addr) (oI : Obj) (J : (Str → Option Value) → List (Addr × Obj) → Prop) (s₂ : Shared) : Prop :=
  wpP P (model prog w) A (execs body env) (fun f s₃ => match f with
    | .next | .cont => TurnEnd h₀ L s I oI J s₃
    | .brk => Q .next s₃
    | .ret v => Q (.ret v) s₃) (fun _ _ => False) s₂
theorem fresh_I (F : Fr h₀ L s.heap m) : L ≠ s.heap.objs.size ∧ h₀.get? s.heap.objs.size = none := ⟨Nat.ne_of_lt F.ns.lt, next_is_new F⟩
theorem For_tup (K : Kept P) {a : Addr} {vs : List Value} {k : Nat} (hh : A.handled = none) (F : Fr h₀ L s.heap m) (N : News h₀ L s.heap news) (hm : (a, tupObj vs k) ∈ news)
    (hx : wpAny (model prog w) A (eval iter env) (fun x s₁ => x = .ref a ∧ s₁ = s) E s)
    (J : Nat → (Str → Option Value) → List (Addr × Obj) → Prop) (hkeep : ∀ i m nw, J i m nw → (a, tupObj vs k) ∈ nw) (h0 : J 0 m news)
    (turn : ∀ i v m₁ news₁ h₁ tk₁ I oI, vs[i]? = some v → J i m₁ news₁ → (∀ p ∈ news₁, p.1 ≠ I) → Fr h₀ L h₁ m₁ → News h₀ L h₁ ((I, oI) :: news₁) →
      wpAny (model prog w) A (assign target env v) (fun _ s₂ => TurnTo P prog w A env h₀ L body Q s I oI (J (i + 1)) s₂) (fun _ _ => False) { s with heap := h₁, toks := tk₁ })
    (fin : ∀ h' tk m' news', Fr h₀ L h' m' → News h₀ L h' news' → J vs.length m' news' → Q .next { s with heap := h', toks := tk })
    (ht : ∀ I v, letOwnedTupleGo target (.ref I) v = pure () := by intro _ _; rfl)
    (hs : ∀ x, foldedSetIterable iter env x = pure x := by intro _; rfl) :
    wpP P (model prog w) A (exec (.For target iter body [] pos) env) Q E s := by
  refine For_walk K (wpAny_mono hx (fun x s₁ hx => ?_) fun _ _ x => x) hs
  obtain ⟨rfl, rfl⟩ := hx
  have hT : s₁.heap.IsTuple a vs.toArray := ⟨_, (N _ hm).1, rfl, _, rfl⟩
  have hlt : a < s₁.heap.objs.size := Heap.lt_size (N _ hm).1
  refine wpAny_pyIter_tuple hT ?_
  have up : ∀ b o, s₁.heap.get? b = some o → (s₁.heap.push { cls := .type "tuple_iterator", data := .fields #[.ref a, .int 0 0] }).get? b = some o := fun b o e => Heap.get?_push_of_some _ e
  obtain ⟨f1, f2⟩ := fresh_I F
  exact for_led (s := { s₁ with heap := s₁.heap.push { cls := .type "tuple_iterator", data := .fields #[.ref a, .int 0 0] } }) K (keep := [(a, tupObj vs k)]) (Walks.tuple hh s₁.heap.objs.size a (Nat.ne_of_lt hlt) vs.toArray) f1 f2
    (fun i h st => by obtain ⟨o, e, _⟩ := st.1; exact ⟨o, e⟩) J (fun i m nw hJ p hp => by rw [List.mem_singleton.mp hp]; exact hkeep i m nw hJ)
    ⟨⟨_, Heap.get?_push_size _ rfl, rfl, rfl⟩, hT.at fun o e => up _ _ e⟩ (F.keeps up) (N.grown up) (fun p hp => Nat.ne_of_lt (Heap.lt_size (N p hp).1)) h0
    (fun i v m₁ news₁ h₁ tk₁ oI _ hv hJ off F₁ N₁ => turn i v m₁ news₁ h₁ tk₁ _ oI (by simpa using hv) hJ off F₁ N₁)
    (fun h' tk m' news' F' N' _ hJ => fin h' tk m' news' F' N' (by simpa using hJ)) (ht _)
theorem For_lst (K : Kept P) {a : Addr} {vs : List Value} {k : Nat} (hh : A.handled = none) (F : Fr h₀ L s.heap m) (N : News h₀ L s.heap news) (hm : (a, lstObj vs k) ∈ news)
    (hx : wpAny (model prog w) A (eval iter env) (fun x s₁ => x = .ref a ∧ s₁ = s) E s)
    (J : Nat → (Str → Option Value) → List (Addr × Obj) → Prop) (hkeep : ∀ i m nw, J i m nw → (a, lstObj vs k) ∈ nw) (h0 : J 0 m news)
    (turn : ∀ i v m₁ news₁ h₁ tk₁ I oI, vs[i]? = some v → J i m₁ news₁ → (∀ p ∈ news₁, p.1 ≠ I) → Fr h₀ L h₁ m₁ → News h₀ L h₁ ((I, oI) :: news₁) →
      wpAny (model prog w) A (assign target env v) (fun _ s₂ => TurnTo P prog w A env h₀ L body Q s I oI (J (i + 1)) s₂) (fun _ _ => False) { s with heap := h₁, toks := tk₁ })
    (fin : ∀ h' tk m' news', Fr h₀ L h' m' → News h₀ L h' news' → J vs.length m' news' → Q .next { s with heap := h', toks := tk })
    (ht : ∀ I v, letOwnedTupleGo target (.ref I) v = pure () := by intro _ _; rfl)
    (hs : ∀ x, foldedSetIterable iter env x = pure x := by intro _; rfl) :
    wpP P (model prog w) A (exec (.For target iter body [] pos) env) Q E s := by
  refine For_walk K (wpAny_mono hx (fun x s₁ hx => ?_) fun _ _ x => x) hs
  obtain ⟨rfl, rfl⟩ := hx
  have hT : s₁.heap.IsList a vs.toArray := ⟨_, (N _ hm).1, rfl, _, rfl⟩
  have hlt : a < s₁.heap.objs.size := Heap.lt_size (N _ hm).1
  refine wpAny_pyIter_list hT ?_
  have up : ∀ b o, s₁.heap.get? b = some o → (s₁.heap.push { cls := .type "list_iterator", data := .fields #[.ref a, .int 0 0] }).get? b = some o := fun b o e => Heap.get?_push_of_some _ e
  obtain ⟨f1, f2⟩ := fresh_I F
  exact for_led (s := { s₁ with heap := s₁.heap.push { cls := .type "list_iterator", data := .fields #[.ref a, .int 0 0] } }) K (keep := [(a, lstObj vs k)]) (Walks.list hh s₁.heap.objs.size a (Nat.ne_of_lt hlt) vs.toArray) f1 f2
    (fun i h st => by obtain ⟨o, e, _⟩ := st.1; exact ⟨o, e⟩) J (fun i m nw hJ p hp => by rw [List.mem_singleton.mp hp]; exact hkeep i m nw hJ)
    ⟨⟨_, Heap.get?_push_size _ rfl, rfl, rfl⟩, hT.at fun o e => up _ _ e⟩ (F.keeps up) (N.grown up) (fun p hp => Nat.ne_of_lt (Heap.lt_size (N p hp).1)) h0
    (fun i v m₁ news₁ h₁ tk₁ oI _ hv hJ off F₁ N₁ => turn i v m₁ news₁ h₁ tk₁ _ oI (by simpa using hv) hJ off F₁ N₁)
    (fun h' tk m' news' F' N' _ hJ => fin h' tk m' news' F' N' (by simpa using hJ)) (ht _)
/-- a mark where the walk stops -/
noncomputable def Stop (p : Prop) : Prop := p
theorem Stop.go {p : Prop} (h : Stop p) : p := h
/-- a range has been made -/
noncomputable def RngAt (h₀ : Heap) (L : Addr) (m : Str → Option Value) (news : List (Addr × Obj)) (s : Shared) (a b c : Int) (x : Value) (s₁ : Shared) : Prop :=
  ∃ r t u v h tk, x = .ref r ∧ s₁ = { s with heap := h, toks := tk } ∧ IsRange s₁.heap r a b c t u v ∧ Fr h₀ L s₁.heap m ∧ News h₀ L s₁.heap news
theorem RngAt.intro {a b c : Int} {r : Addr} {t u v : Tok} {h : Heap} {tk : Nat} (hr : IsRange h r a b c t u v) (F : Fr h₀ L s.heap m) (N : News h₀ L s.heap news) (up : ∀ b o, s.heap.get? b = some o → h.get? b = some o) :
    RngAt h₀ L m news s a b c (.ref r) { s with heap := h, toks := tk } := ⟨r, t, u, v, h, tk, rfl, rfl, hr, F.keeps up, N.grown up⟩
/-- over a range: the source is evaluated to a range object -/
theorem For_rng (K : Kept P) {a b c : Int} {n : Nat} (hh : A.handled = none) (hsm : Builtin.Range.small a b c = true) (hn : Builtin.Range.rangeSize a b c = (n : Int))
    (_F : Fr h₀ L s.heap m) (_N : News h₀ L s.heap news) (hx : wpAny (model prog w) A (eval iter env) (RngAt h₀ L m news s a b c) E s)
    (J : Nat → (Str → Option Value) → List (Addr × Obj) → Prop) (h0 : J 0 m news)
    (turn : ∀ i t m₁ news₁ h₁ tk₁ I oI, i < n → J i m₁ news₁ → (∀ p ∈ news₁, p.1 ≠ I) → Fr h₀ L h₁ m₁ → News h₀ L h₁ ((I, oI) :: news₁) →
      wpAny (model prog w) A (assign target env (.int (a + i * c) t)) (fun _ s₂ => TurnTo P prog w A env h₀ L body Q s I oI (J (i + 1)) s₂) (fun _ _ => False) { s with heap := h₁, toks := tk₁ })
    (fin : ∀ h' tk m' news', Fr h₀ L h' m' → News h₀ L h' news' → J n m' news' → Q .next { s with heap := h', toks := tk })
    (ht : ∀ I v, letOwnedTupleGo target (.ref I) v = pure () := by intro _ _; rfl)
    (hs : ∀ x, foldedSetIterable iter env x = pure x := by intro _; rfl) :
    wpP P (model prog w) A (exec (.For target iter body [] pos) env) Q E s := by
  refine For_walk K (wpAny_mono hx (fun x s₁ hx => ?_) fun _ _ x => x) hs
  obtain ⟨r, t, u, v, h, tk, rfl, rfl, hr, F, N⟩ := hx
  refine wpAny_pyIter_range hr hsm ?_
  dsimp only at hr F N ⊢
  have up : ∀ b' o, h.get? b' = some o → (h.push { cls := .type "range_iterator", data := .fields #[rawInt a, rawInt (Builtin.Range.rangeSize a b c), rawInt c] }).get? b' = some o := fun b o e => Heap.get?_push_of_some _ e
  have f1 : L ≠ h.objs.size := Nat.ne_of_lt F.ns.lt
  have f2 : h₀.get? h.objs.size = none := by
    cases q : h₀.get? h.objs.size with
    | none => rfl
    | some o => exact absurd (Heap.lt_size (F.keep _ _ q)) (Nat.lt_irrefl _)
  exact for_led (s := { s with heap := h.push { cls := .type "range_iterator", data := .fields #[rawInt a, rawInt (Builtin.Range.rangeSize a b c), rawInt c] }, toks := tk }) K (keep := []) (Walks.range hh h.objs.size a c n) f1 f2
    (fun i h st => ⟨_, st⟩) J (fun i m nw hJ p hp => nomatch hp)
    (by show IsRangeIter _ _ _ _ _; rw [hn]; simpa using Heap.get?_push_size _ rfl) (F.keeps up) (N.grown up) (fun p hp => Nat.ne_of_lt (Heap.lt_size (N p hp).1)) h0
    (fun i v m₁ news₁ h₁ tk₁ oI hi hv hJ off F₁ N₁ => by obtain ⟨t, rfl⟩ := hv; exact turn i t m₁ news₁ h₁ tk₁ _ oI hi hJ off F₁ N₁)
    (fun h' tk m' news' F' N' _ hJ => fin h' tk m' news' F' N' hJ) (ht _)
end
end Mine
end
section
open PySem PySem.W PyProof.Rows PySem.Calls
set_option maxRecDepth 100000
namespace Mine
section
variable {P : Ctx → Prop} {prog : Program} {w : World} {A : Around} {E : Value → Shared → Prop} {s : Shared} {env : Env} {h₀ : Heap} {L : Addr} {m : Str → Option Value} {news : List (Addr × Obj)} {target iter : Expr} {body : List Stmt} {pos : Pos} {Q : Flow → Shared → Prop}
/-- a loop over one item: what follows is told by what the turn leaves -/
theorem For_tup1 (K : Kept P) {a : Addr} {v : Value} {k : Nat} (hh : A.handled = none) (F : Fr h₀ L s.heap m) (N : News h₀ L s.heap news) (hm : (a, tupObj [v] k) ∈ news)
    (hx : wpAny (model prog w) A (eval iter env) (fun x s₁ => x = .ref a ∧ s₁ = s) E s)
    (turn : ∀ h₁ tk₁ I oI, (∀ p ∈ news, p.1 ≠ I) → Fr h₀ L h₁ m → News h₀ L h₁ ((I, oI) :: news) →
      wpAny (model prog w) A (assign target env v) (fun _ s₂ => TurnTo P prog w A env h₀ L body Q s I oI (fun m' news' => (a, tupObj [v] k) ∈ news' ∧ ∀ h tk, Fr h₀ L h m' → News h₀ L h news' → Q .next { s with heap := h, toks := tk }) s₂) (fun _ _ => False) { s with heap := h₁, toks := tk₁ })
    (ht : ∀ I v, letOwnedTupleGo target (.ref I) v = pure () := by intro _ _; rfl)
    (hs : ∀ x, foldedSetIterable iter env x = pure x := by intro _; rfl) :
    wpP P (model prog w) A (exec (.For target iter body [] pos) env) Q E s := by
  refine For_tup K hh F N hm hx (fun i m' nw => (a, tupObj [v] k) ∈ nw ∧ (i = 0 → m' = m ∧ nw = news) ∧ (i = 1 → ∀ h tk, Fr h₀ L h m' → News h₀ L h nw → Q .next { s with heap := h, toks := tk })) (fun _ _ _ h => h.1) ⟨hm, fun _ => ⟨rfl, rfl⟩, fun h => absurd h (by decide)⟩ ?_ (fun h' tk m' news' F' N' hJ => hJ.2.2 rfl h' tk F' N') ht hs
  intro i v' m₁ news₁ h₁ tk₁ I oI hv hJ off F₁ N₁
  match i, hv with
  | 0, hv =>
    obtain ⟨rfl, rfl⟩ := hJ.2.1 rfl
    obtain rfl : v = v' := by simpa using hv
    refine wpAny_mono (turn h₁ tk₁ I oI off F₁ N₁) (fun _ s₂ h₂ => wpP_mono h₂ (fun f s₃ h₃ => ?_) fun _ _ x => x) fun _ _ x => x
    cases f with
    | next => obtain ⟨h', tk', m', nw, e, F', N', o', k1, k2⟩ := h₃; exact ⟨h', tk', m', nw, e, F', N', o', k1, fun h => absurd h (by decide), fun _ => k2⟩
    | cont => obtain ⟨h', tk', m', nw, e, F', N', o', k1, k2⟩ := h₃; exact ⟨h', tk', m', nw, e, F', N', o', k1, fun h => absurd h (by decide), fun _ => k2⟩
    | brk => exact h₃
    | ret v => exact h₃
  | i + 1, hv => simp at hv
end
end Mine
end
section
open PySem PySem.W PyProof.Rows PySem.Calls
set_option maxRecDepth 100000
namespace Mine
/-- what a name holds, of a map that is not written -/
noncomputable def At (m : Str → Option Value) (x : Str) (v : Value) : Prop := m x = some v
theorem At.here {m : Str → Option Value} {x : Str} {v : Value} : At (fun y => if y = x then some v else m y) x v := if_pos rfl
theorem At.skip {m : Str → Option Value} {x y : Str} {u v : Value} (hne : x ≠ y) (h : At m x v) : At (fun z => if z = y then some u else m z) x v := (if_neg hne).trans h
theorem Fr_here {h₀ h : Heap} {L : Addr} {m : Str → Option Value} {x : Str} {v : Value} (_ : Fr h₀ L h (fun y => if y = x then some v else m y)) : At (fun y => if y = x then some v else m y) x v := At.here
theorem name_at {m : Str → Option Value} {x : Str} {a : Addr} (h : At m x (.ref a)) : ∃ l, l = a ∧ At m x (.ref a) := ⟨a, rfl, h⟩
section
variable {prog : Program} {w : World} {M : Model} {A : Around} {E : Value → Shared → Prop} {s : Shared} {h₀ : Heap} {L : Addr} {m : Str → Option Value} {news : List (Addr × Obj)}
theorem ldA {name : Str} {scope : Scope} {a : Addr} {cd : Value} {x : Str} {pos : Pos} {v : Value} {Q : Value → Shared → Prop} (F : Fr h₀ L s.heap m) (hv : At m x v) (h : Q v s)
    (hk : scope.kind = .function := by rfl) (hl : (envOf name scope L a cd).kindOf x = some .local := by rfl)
    (hd : (x == ("__debug__" : Str)) = false := by decide) :
    wpAny M A (eval (.Name x pos) (envOf name scope L a cd)) Q E s := ld F hv h hk hl hd
theorem ldnA {name : Str} {scope : Scope} {a : Addr} {cd : Value} {x : Str} {v : Value} {Q : Value → Shared → Prop} (F : Fr h₀ L s.heap m) (hv : At m x v) (h : Q v s)
    (hk : scope.kind = .function := by rfl) (hl : (envOf name scope L a cd).kindOf x = some .local := by rfl) :
    wpAny M A (loadName (envOf name scope L a cd) x) Q E s := ldn F hv h hk hl
theorem append_L {pre post : List (Addr × Obj)} {D : Addr} {vs : List Value} {n : Nat} {x : Value} {Q : Value → Shared → Prop} (F : Fr h₀ L s.heap m) (N : News h₀ L s.heap (pre ++ (D, listOf vs.toArray n) :: post)) (h1 : ∀ p ∈ pre, p.1 ≠ D) (h2 : ∀ p ∈ post, p.1 ≠ D)
    (h : ∀ h', Fr h₀ L h' m → News h₀ L h' (pre ++ (D, listOf (vs ++ [x]).toArray (n + 1)) :: post) → Q .none { s with heap := h' }) (hsz : vs.length ≤ 1000000) : wpAny (model prog w) A (call (.builtin "list.append") [.ref D, x]) Q E s := by
  have z := N (D, listOf vs.toArray n) (List.mem_append.mpr (.inr (.head _)))
  refine append_at (hsz := by show vs.toArray.size ≤ sizeLine; rw [sizeLine_eq, List.size_toArray]; omega) z.1 fun h' hs ho' => h h' (F.change hs z.2.1 z.2.2) ?_
  have e : listOf (vs.toArray.push x) (n + 1) = listOf (vs ++ [x]).toArray (n + 1) := by simp
  intro p hp
  rcases List.mem_append.mp hp with hp | hp
  · have y := N p (List.mem_append.mpr (.inl hp))
    exact ⟨(hs.2 _ (h1 p hp)).trans y.1, y.2⟩
  · rcases List.mem_cons.mp hp with rfl | hp
    · exact ⟨ho'.trans (congrArg some e), z.2⟩
    · have y := N p (List.mem_append.mpr (.inr (.tail _ hp)))
      exact ⟨(hs.2 _ (h2 p hp)).trans y.1, y.2⟩
/-- the last item -/
theorem item_last {value slice : Expr} {u : Tok} {a : Addr} {vs : List Value} {v : Value} {n : Nat} {Q : Value → Shared → Prop} (N : News h₀ L s.heap news) (hm : (a, listOf (vs ++ [v]).toArray n) ∈ news) (h : Q v s)
    (hs : subscripted slice false (.ref a) (.int (-1) u) = operate [.ref a, .int (-1) u] (getItem (.ref a) (.int (-1) u)) := by with_unfolding_all rfl) :
    wpAny (model prog w) A (subscriptTail value slice (.ref a) (.int (-1) u)) Q E s := by
  refine tail_any (isL N hm).typeIs slot_list_getitem.lookup (wpAny_getItem_list_neg (isL N hm) (by decide) (by simp; omega) (by decide) ?_ h) hs
  have e : (-1 + ((vs ++ [v]).toArray.size : Int)).toNat = vs.length := by simp; omega
  rw [e]
  simp
end
end Mine
end
section
open PySem PySem.W PyProof.Rows PySem.Calls
set_option maxRecDepth 100000
namespace Mine
section
variable {P : Ctx → Prop} {M : Model} {A : Around} {E : Value → Shared → Prop} {s : Shared} {env : Env}
/-- what is wanted behind a comprehension's block -/
noncomputable def CPost (M : Model) (A : Around) (E : Value → Shared → Prop) (use : Option (Value → Sem Unit)) (Q : Value → Shared → Prop) (acc : Value) (C : Addr) (r : Result) (s' : Shared) : Prop := match r with
  | .ok _ => (match use with
    | none => ∃ m, s'.heap.Ns C m ∧ ∀ h', Heap.SameBut C s'.heap h' → Q acc { s' with heap := h' }
    | some u => wpAny M A (u acc) (fun _ s'' => ∃ m, s''.heap.Ns C m ∧ ∀ h', Heap.SameBut C s''.heap h' → Q .none { s'' with heap := h' }) E s')
  | .error _ => False
theorem compP (K : Kept P) {e : Expr} {scope : Scope} {pos : Pos} {newAcc first : Sem Value} {g : Comprehension} {gs : List Comprehension} {cl : List (Str × Addr)} {use : Option (Value → Sem Unit)} {Q : Value → Shared → Prop}
    (hcl : clausesOf e = g :: gs) (hs : ∀ x, foldedSetIterable g.iter env x = pure x) (hclos : closureFor scope env = pure cl)
    (hkind : scope.kind = .function) (hnames : ∀ x ∈ scope.names, x.2 = .local → scope.names.lookup x.1 = some .local)
    (h : wpP P M A first (fun x s₁ => wpAny M A (pyIter x) (fun it s₂ => wpAny M A newAcc (fun acc s₃ =>
      wpAny M A (newFunctionEnv scope env.globals cl [] env.qual none .none (some env)) (fun cenv s₄ =>
        codeP P M A (.compStart e 0 it acc { cenv with scope := relabel scope env }) (CPost M A E use Q acc cenv.locals) s₄) E s₃) E s₂) E s₁) E s) :
    wpP P M A (comprehension e scope env pos newAcc false first use) Q E s := by
  unfold comprehension
  rw [hclos, hcl]
  refine wpP_bind (wpP_mono h (fun x s₁ h₁ => ?_) fun _ _ h' => h')
  refine wpP_bind (wpP_standAt (wpP_bindA (wpAny_of_eq (hs x) ?_)))
  refine wpP_bindA (wpAny_holding (wpAny_mono h₁ (fun it s₂ h₂ => ?_) fun _ _ h' => h'))
  have hv : ∀ (cenv : Env), ∀ x ∈ (scope.names.filter fun x => (x.2 == .local || x.2 == .cell) && x.1 != (".0" : Str)).reverse, x.2 = .local →
      Env.kindOf { cenv with scope := relabel scope env } x.1 = some .local := fun cenv x hx hl => lookup_relabel_local (hnames x (List.mem_filter.mp (List.mem_reverse.mp hx)).1 hl)
  have hv' : ∀ (cenv : Env), ∀ x ∈ (scope.names.filter fun x => (x.2 == .local || x.2 == .cell) && x.1 != (".0" : Str)).reverse.drop 1 ++ (scope.names.filter fun x => (x.2 == .local || x.2 == .cell) && x.1 != (".0" : Str)).reverse.take 1,
      x.2 = .local → Env.kindOf { cenv with scope := relabel scope env } x.1 = some .local := fun cenv x hx hl => by
    rcases List.mem_append.mp hx with h1 | h1
    · exact hv cenv x (List.mem_of_mem_drop h1) hl
    · exact hv cenv x (List.mem_of_mem_take h1) hl
  cases use with
  | none =>
    refine wpP_bindA (wpAny_mono h₂ (fun acc s₃ h₃ => wpP_bind (wpP_pure ?_)) fun _ _ h' => h')
    refine wpP_bindA (wpAny_mono h₃ (fun cenv s₄ h₄ => ?_) fun _ _ h' => h')
    refine wpP_holding (wpP_bind (wpP_attempt (wpP_holding (wpP_run K rfl (codeP_mono h₄ fun r s' hr => ?_)))))
    cases r with
    | error x => exact hr.elim
    | ok f =>
      obtain ⟨m, hn, hr⟩ := hr
      exact wpP_bindA (wpAny_holding (wpAny_comp_letGo (cenv := { cenv with scope := relabel scope env }) hkind _ s' m (hv cenv) hn fun h' m' _ hs' => wpP_pure (hr h' hs')))
  | some u =>
    refine wpP_bind (wpP_standAt ?_)
    refine wpP_bindA (wpAny_mono h₂ (fun acc s₃ h₃ => wpP_bind (wpP_pure ?_)) fun _ _ h' => h')
    refine wpP_bindA (wpAny_mono h₃ (fun cenv s₄ h₄ => ?_) fun _ _ h' => h')
    refine wpP_holding (wpP_bind (wpP_attempt (wpP_holding (wpP_run K rfl (codeP_mono h₄ fun r s' hr => ?_)))))
    cases r with
    | error x => exact hr.elim
    | ok f =>
      refine wpP_bindA (wpAny_rule ?_)
      refine wpP_bindA (wpAny_holding (wpAny_mono hr (fun _ s'' hr' => ?_) fun _ _ h' => h'))
      obtain ⟨m, hn, hr'⟩ := hr'
      exact wpP_bindA (wpAny_comp_letGo (cenv := { cenv with scope := relabel scope env }) hkind _ s'' m (hv' cenv) hn fun h' m' _ hs' => wpP_pure (hr' h' hs'))
end
end Mine
end
section
open PySem PySem.W PyProof.Rows PySem.Calls
set_option maxRecDepth 100000
namespace Mine
section
variable {P : Ctx → Prop} {prog : Program} {w : World} {A : Around} {E : Value → Shared → Prop} {R : Result → Shared → Prop} {s : Shared} {env : Env}
theorem compStartP (K : Kept P) {elt target iter : Expr} {ifs : List Expr} {rest : List Comprehension} {scope : Scope} {pos : Pos} {it acc : Value}
    (h0 : codeP P (model prog w) A (.compLoop (.ListComp elt (⟨target, iter, ifs, 0⟩ :: rest) scope pos) 0 it acc env) R s)
    (h : wpAny (model prog w) A (pyIter it) (fun it' s' => codeP P (model prog w) A (.compLoop (.ListComp elt (⟨target, iter, ifs, 0⟩ :: rest) scope pos) 0 it' acc env) R s') (fun _ _ => False) s) :
    codeP P (model prog w) A (.compStart (.ListComp elt (⟨target, iter, ifs, 0⟩ :: rest) scope pos) 0 it acc env) R s := by
  refine codeP_of_tree K ?_
  rw [Around.under_of_weight (A := A) (c := .compStart (.ListComp elt (⟨target, iter, ifs, 0⟩ :: rest) scope pos) 0 it acc env) rfl]
  show wpP P _ _ ((compStart (.ListComp elt (⟨target, iter, ifs, 0⟩ :: rest) scope pos) 0 it acc env).onRaise (fun x => do noteFrame x env; standAt theWindowsPlace)) _ _ s
  refine wpP_onRaise ?_
  unfold compStart
  show wpP P _ _ (ask >>= _) _ _ s
  refine wpP_bindA (wpAny_askSetting ?_)
  split
  · first
      | exact wpP_bind (wpP_pure (wpP_pure ⟨rfl, rfl, h0⟩))
      | exact wpP_pure ⟨rfl, rfl, h0⟩
  · refine wpP_bindA (wpAny_rule ?_)
    show wpP P _ _ (standAt iter.pos >>= _) _ _ s
    refine wpP_bind (wpP_standAt (wpP_bindA (wpAny_mono h (fun it' s' h' => wpP_pure ⟨rfl, rfl, h'⟩) fun _ _ x => x.elim)))
/-- the tests of a clause, at most one -/
abbrev TestsOf (ifs : List Expr) (env : Env) : Sem Bool := forIn ifs true fun c r => if r = true then do let ok ← isTrue c env (eval c env); pure (ForInStep.yield ok) else pure (ForInStep.yield r)
theorem compLoopP (K : Kept P) {elt target iter : Expr} {ifs : List Expr} {scope : Scope} {pos : Pos} {acc : Value} {I : Addr} {fp wr : List Addr} {n : Nat} {Pv : Nat → Value → Prop} {St : Nat → Heap → Prop}
    (W : Walks prog w A I fp wr n Pv St) (J : Nat → Shared → Prop) (hJ : ∀ i s, J i s → St i s.heap)
    (turn : ∀ i s v h' tk, i < n → J i s → Pv i v → St (i + 1) h' → (∀ b o, b ∉ wr → s.heap.get? b = some o → h'.get? b = some o) →
      wpAny (model prog w) A (assign target env v) (fun _ s₂ => wpP P (model prog w) A (TestsOf ifs env) (fun ok s₃ => if ok = true then
          wpP P (model prog w) A (eval elt env) (fun x s₄ => wpAny (model prog w) A (call (.builtin "list.append") [acc, x]) (fun _ s₅ => J (i + 1) s₅) (fun _ _ => False) s₄) (fun _ _ => False) s₃
        else J (i + 1) s₃) (fun _ _ => False) s₂) (fun _ _ => False) { s with heap := h', toks := tk })
    (done : ∀ s h' tk, J n s → (∀ b o, b ∉ wr → s.heap.get? b = some o → h'.get? b = some o) → R (.ok .next) { s with heap := h', toks := tk })
    (h0 : J 0 s) (ht : ∀ v, letOwnedTupleGo target (.ref I) v = pure () := by intro _; rfl) :
    codeP P (model prog w) A (.compLoop (.ListComp elt [⟨target, iter, ifs, 0⟩] scope pos) 0 (.ref I) acc env) R s := by
  refine codeP_loop K rfl rfl (fun k s' => ∃ i, J i s' ∧ i ≤ n ∧ k = n + 1 - i) ?_ (n + 1) ⟨0, h0, Nat.zero_le _, rfl⟩
  rintro k s' ⟨i, hi, hin, rfl⟩
  rw [Around.under_of_weight (A := A) (c := .compLoop (.ListComp elt [⟨target, iter, ifs, 0⟩] scope pos) 0 (.ref I) acc env) rfl]
  show wpP P _ A ((compTurn (.ListComp elt [⟨target, iter, ifs, 0⟩] scope pos) 0 (.ref I) acc env).onRaise (fun x => do noteFrame x env; theTreesLotGoes x)) _ _ s'
  refine wpP_onRaise ?_
  rw [compTurn_list]
  refine wpP_bind (wpP_standAt (wpP_bind ?_))
  by_cases hlt : i < n
  · refine .of_any (W.item i s' _ _ hlt (hJ _ _ hi) fun v h' tk hv st hk => ?_)
    dsimp only
    refine wpP_bindA (wpAny_of_eq (ht v) ?_)
    refine wpP_bindA (wpAny_mono (turn i s' v h' tk hlt hi hv st hk) (fun _ s₂ h₂ => wpP_bind (wpP_mono h₂ (fun ok s₃ h₃ => ?_) fun _ _ x => x.elim)) fun _ _ x => x.elim)
    cases ok with
    | false => exact wpP_pure (.inl ⟨rfl, _, by omega, i + 1, h₃, hlt, rfl⟩)
    | true =>
      refine wpP_bind (wpP_bind (wpP_mono h₃ (fun x s₄ h₄ => wpP_bindA (wpAny_mono h₄ (fun _ s₅ h₅ => wpP_pure (wpP_pure (.inl ⟨rfl, _, by omega, i + 1, h₅, hlt, rfl⟩))) fun _ _ x => x.elim)) fun _ _ x => x.elim))
  · obtain rfl : i = n := by omega
    refine .of_any (W.done s' _ _ (hJ _ _ hi) fun h' tk hk => ?_)
    exact wpP_pure (done s' h' tk hi hk)
end
/-- none of the ledger's is the iterator, the block's frame, the list -/
noncomputable def Off3 (I C D : Addr) (news : List (Addr × Obj)) : Prop := ∀ p ∈ news, p.1 ≠ I ∧ p.1 ≠ C ∧ p.1 ≠ D
abbrev lstN (ys : List Value) : Obj := listOf ys.toArray ys.length
/-- what a turn of a comprehension leaves -/
noncomputable def CEnd (h₀ : Heap) (L : Addr) (m : Str → Option Value) (s : Shared) (I : Addr) (oI : Obj) (C : Addr) (oC : Obj) (D : Addr) (ys : List Value) (J : Value → List (Addr × Obj) → Prop) (y : Value) (s' : Shared) : Prop :=
  ∃ h' tk' news', s' = { s with heap := h', toks := tk' } ∧ Fr h₀ L h' m ∧ News h₀ L h' ((I, oI) :: (C, oC) :: (D, lstN ys) :: news') ∧ Off3 I C D news' ∧ J y news'
theorem CEnd.intro {h₀ : Heap} {L : Addr} {m : Str → Option Value} {s : Shared} {I : Addr} {oI : Obj} {C : Addr} {oC : Obj} {D : Addr} {ys : List Value} {J : Value → List (Addr × Obj) → Prop} {y : Value} {h' : Heap} {tk' : Nat} {all : List (Addr × Obj)} (news' : List (Addr × Obj))
    (F : Fr h₀ L h' m) (N : News h₀ L h' all) (sub : ∀ p ∈ (I, oI) :: (C, oC) :: (D, lstN ys) :: news', p ∈ all) (off : Off3 I C D news') (hJ : J y news') : CEnd h₀ L m s I oI C oC D ys J y { s with heap := h', toks := tk' } :=
  ⟨h', tk', news', rfl, F, fun p hp => N p (sub p hp), off, hJ⟩
section
variable {P : Ctx → Prop} {prog : Program} {w : World} {A : Around} {E : Value → Shared → Prop} {s : Shared} {env : Env} {h₀ : Heap} {L : Addr} {m : Str → Option Value} {news : List (Addr × Obj)}
/-- one turn: the test, the element -/
abbrev CTurn (P : Ctx → Prop) (prog : Program) (w : World) (A : Around) (cenv : Env) (elt : Expr) (ifs : List Expr) (h₀ : Heap) (L : Addr) (m : Str → Option Value) (s : Shared) (I : Addr) (oI : Obj) (C : Addr) (oC : Obj) (D : Addr) (ys : List Value) (J : List Value → List (Addr × Obj) → Prop) (s₂ : Shared) : Prop :=
  wpP P (model prog w) A (TestsOf ifs cenv) (fun ok s₃ => if ok = true then
      wpP P (model prog w) A (eval elt cenv) (CEnd h₀ L m s I oI C oC D ys (fun y news' => J (ys ++ [y]) news')) (fun _ _ => False) s₃
    else CEnd h₀ L m s I oI C oC D ys (fun _ news' => J ys news') .none s₃) (fun _ _ => False) s₂
theorem block_P (K : Kept P) {elt iter : Expr} {ifs : List Expr} {x : Str} {px : Pos} {scope : Scope} {cl : List (Str × Addr)} {pos : Pos} {I : Addr} {keep : List (Addr × Obj)} {n : Nat} {Pv : Nat → Value → Prop} {St : Nat → Heap → Prop}
    {RR : Value → Addr → Result → Shared → Prop}
    (W : Walks prog w A I (I :: keep.map (·.1)) [I] n Pv St) (hsz : n ≤ 1000000) (hIo : ∀ i h, St i h → ∃ o, h.get? I = some o)
    (hcell : ∀ y ∈ scope.names, y.2 ≠ .cell) (hkind : scope.kind = .function) (hx : scope.names.lookup x = some .local) (hst : St 0 s.heap)
    (F : Fr h₀ L s.heap m) (N : News h₀ L s.heap news) (hIL : L ≠ I) (hI₀ : h₀.get? I = none) (off : ∀ p ∈ news, p.1 ≠ I)
    (J : Nat → List Value → List (Addr × Obj) → Prop) (hkeep : ∀ i ys nw, J i ys nw → ∀ p ∈ keep, p ∈ nw) (hlen : ∀ i ys nw, J i ys nw → ys.length ≤ i) (h0 : J 0 [] news)
    (turn : ∀ i v ys news₁ h₁ tk₁ oI C oC D m₂, i < n → Pv i v → J i ys news₁ → Off3 I C D news₁ → (@Ne Nat I C ∧ @Ne Nat I D ∧ @Ne Nat C D) → LCg.NsObj oC m₂ → m₂ x = some v → Fr h₀ L h₁ m → News h₀ L h₁ ((I, oI) :: (C, oC) :: (D, lstN ys) :: news₁) →
      CTurn P prog w A (compEnvC scope cl C env) elt ifs h₀ L m s I oI C oC D ys (J (i + 1)) { s with heap := h₁, toks := tk₁ })
    (hRR : ∀ D C h tk m' ys news', Fr h₀ L h m → News h₀ L h ((D, lstN ys) :: news') → (∀ p ∈ news', p.1 ≠ D ∧ p.1 ≠ C) → h.Ns C m' → h₀.get? C = none → h₀.get? D = none → C ≠ L → D ≠ L → C ≠ D → J n ys news' → RR (.ref D) C (.ok .next) { s with heap := h, toks := tk }) :
    wpAny (model prog w) A (newList []) (fun acc s₃ => wpAny (model prog w) A (newFunctionEnv scope env.globals cl [] env.qual none .none (some env)) (fun cenv s₄ =>
      codeP P (model prog w) A (.compStart (.ListComp elt [⟨.Name x px, iter, ifs, 0⟩] scope pos) 0 (.ref I) acc { cenv with scope := relabel scope env }) (RR acc cenv.locals) s₄) E s₃) E s := by
  refine wpAny_newObj_type (wpAny_newFunctionEnv hcell (by intro y hy; simp at hy) (fun h₁ hns₁ hsb₁ => ?_) hkind)
  dsimp only at hns₁ hsb₁ ⊢
  generalize hH2 : s.heap.push { cls := .type "list", dict := none, data := .seq ([] : List Value).toArray } = H2 at hns₁ hsb₁ ⊢
  have hC : H2.objs.size = s.heap.objs.size + 1 := by rw [← hH2, Heap.size_push]
  obtain ⟨D, hD⟩ : ∃ D, D = s.heap.objs.size := ⟨_, rfl⟩
  obtain ⟨C, hCe⟩ : ∃ C, C = H2.objs.size := ⟨_, rfl⟩
  rw [← hD] at hC ⊢
  rw [← hCe] at hC hns₁ hsb₁ ⊢
  have fresh : ∀ a, D ≤ a → s.heap.get? a = none := fun a ha => by
    cases e : s.heap.get? a with
    | none => rfl
    | some o' => exact absurd (Heap.lt_size e) (Nat.not_lt.mpr (hD ▸ ha))
  have fresh₀ : ∀ a, D ≤ a → h₀.get? a = none := fun a ha => by
    cases e : h₀.get? a with
    | none => rfl
    | some o' => have := F.keep a o' e; rw [fresh a ha] at this; cases this
  have below : ∀ b o, s.heap.get? b = some o → b ≠ C ∧ b ≠ D := fun b o e => by
    have h1 := Heap.lt_size e
    rw [← hD] at h1
    have h2 : @LT.lt Nat _ b D := h1
    have h3 : @Eq Nat C (D + 1) := hC
    show @Ne Nat b C ∧ @Ne Nat b D
    omega
  have old : ∀ b o, s.heap.get? b = some o → h₁.get? b = some o := fun b o e => hsb₁.extBut b o (below b o e).1 (Heap.get?_push_of_some _ (hH2 ▸ Heap.get?_push_of_some _ e))
  have hacc : h₁.get? D = some (lstN []) := hsb₁.extBut _ _ (by show @Ne Nat D C; have h3 : @Eq Nat C (D + 1) := hC; omega) (Heap.get?_push_of_some _ (hH2 ▸ hD ▸ Heap.get?_push_size _ rfl))
  obtain ⟨oI₀, hoI₀⟩ := hIo _ _ hst
  have hIC := (below _ _ hoI₀).1
  have hID := (below _ _ hoI₀).2
  have hCD : C ≠ D := by show @Ne Nat C D; have h3 : @Eq Nat C (D + 1) := hC; omega
  obtain ⟨oL, _, _, hoL, _⟩ := F.ns
  have hCL : C ≠ L := Ne.symm (below _ _ hoL).1
  have hDL : D ≠ L := Ne.symm (below _ _ hoL).2
  have hC₀ : h₀.get? C = none := fresh₀ _ (by show @LE.le Nat _ D C; have h3 : @Eq Nat C (D + 1) := hC; omega)
  have hD₀ : h₀.get? D = none := fresh₀ _ (Nat.le_refl _)
  have hst₁ : St 0 h₁ := W.frame _ _ _ hst fun b hb o e => old b o e
  have off₀ : Off3 I C D news := fun p hp => ⟨off p hp, (below _ _ (N p hp).1).1, (below _ _ (N p hp).1).2⟩
  have loop : codeP P (model prog w) A (.compLoop (.ListComp elt [⟨.Name x px, iter, ifs, 0⟩] scope pos) 0 (.ref I) (.ref D) (compEnvC scope cl C env)) (RR (.ref D) C) { s with heap := h₁, toks := s.toks + ([] : List (Str × Value)).length } := by
    refine compLoopP K W (fun i s' => ∃ h' tk ys m' news', s' = { s with heap := h', toks := tk } ∧ St i h' ∧ Fr h₀ L h' m ∧ h'.Ns C m' ∧ News h₀ L h' ((D, lstN ys) :: news') ∧ Off3 I C D news' ∧ i ≤ n ∧ J i ys news')
      (fun i s' ⟨h', tk, ys, m', news', e, st, _⟩ => by subst e; exact st) ?_ ?_
      ⟨h₁, _, [], _, news, rfl, hst₁, F.keeps old, hns₁, fun p hp => ?_, off₀, Nat.zero_le _, h0⟩
    · rintro i s' v h₂ tk₂ hlt ⟨h', tk, ys, m', news', rfl, st, F', hn', N', off', hin, hJ⟩ hv st₂ hk
      have F₂ : Fr h₀ L h₂ m := LCg.fr_but F' hk hIL hI₀
      have N₂ : News h₀ L h₂ ((D, lstN ys) :: news') := LCg.news_but N' hk fun p hp => by
        rcases List.mem_cons.mp hp with rfl | hp
        · exact Ne.symm hID
        · exact (off' p hp).1
      refine wpAny_assign_Name (wpAny_storeName_local (lookup_relabel_local hx) (hn'.at' fun o e => hk _ o (by simpa using Ne.symm hIC) e) (fun h₃ hn₃ hs₃ => ?_) (by simp [compEnvC, relabel, hkind]))
      have st₃ : St (i + 1) h₃ := W.frame _ _ _ st₂ fun b hb o e => hs₃.extBut b o (fun q => by
        have q' : b = C := q
        rcases List.mem_cons.mp hb with hb | hb
        · exact hIC (hb ▸ q')
        · obtain ⟨p, hp, rfl⟩ := List.mem_map.mp hb
          exact (off' p (hkeep _ _ _ hJ p hp)).2.1 q') e
      obtain ⟨oI, heI⟩ := hIo _ _ st₃
      obtain ⟨oC, heC, hoC⟩ := LCg.ns_obj hn₃
      have F₃ : Fr h₀ L h₃ m := F₂.change hs₃ hCL hC₀
      have N₃ : News h₀ L h₃ ((I, oI) :: (C, oC) :: (D, lstN ys) :: news') := fun p hp => by
        rcases List.mem_cons.mp hp with rfl | hp
        · exact ⟨heI, Ne.symm hIL, hI₀⟩
        · rcases List.mem_cons.mp hp with rfl | hp
          · exact ⟨heC, hCL, hC₀⟩
          · have z := N₂ p hp
            refine ⟨hs₃.extBut _ _ ?_ z.1, z.2⟩
            rcases List.mem_cons.mp hp with rfl | hp
            · exact Ne.symm hCD
            · exact (off' p hp).2.1
      have back : ∀ {h₄ tk₄ ys' news₄}, St (i + 1) h₄ → Fr h₀ L h₄ m → h₄.Ns C (fun z => if z = x then some v else m' z) → News h₀ L h₄ ((D, lstN ys') :: news₄) → Off3 I C D news₄ → J (i + 1) ys' news₄ →
          ∃ h' tk ys m' news', ({ s with heap := h₄, toks := tk₄ } : Shared) = { s with heap := h', toks := tk } ∧ St (i + 1) h' ∧ Fr h₀ L h' m ∧ h'.Ns C m' ∧ News h₀ L h' ((D, lstN ys) :: news') ∧ Off3 I C D news' ∧ i + 1 ≤ n ∧ J (i + 1) ys news' :=
        fun a b c d e f => ⟨_, _, _, _, _, rfl, a, b, c, d, e, hlt, f⟩
      have stAt : ∀ {h₄ news₄ ys'}, News h₀ L h₄ ((I, oI) :: (C, oC) :: (D, lstN ys) :: news₄) → J (i + 1) ys' news₄ → St (i + 1) h₄ := fun {h₄ news₄ ys'} N₄ hJ₄ =>
        W.frame _ _ _ st₃ fun b hb o e => by
          rcases List.mem_cons.mp hb with rfl | hb
          · have := (N₄ (b, oI) List.mem_cons_self).1
            rw [heI] at e; cases e; exact this
          · obtain ⟨p, hp, rfl⟩ := List.mem_map.mp hb
            have h1 := (N₃ p (List.mem_cons_of_mem _ (List.mem_cons_of_mem _ (List.mem_cons_of_mem _ (hkeep _ _ _ hJ p hp))))).1
            have h2 := (N₄ p (List.mem_cons_of_mem _ (List.mem_cons_of_mem _ (List.mem_cons_of_mem _ (hkeep _ _ _ hJ₄ p hp))))).1
            rw [h1] at e; cases e; exact h2
      refine wpP_mono (turn i v ys news' h₃ _ oI C oC D _ hlt hv hJ off' ⟨hIC, hID, hCD⟩ hoC (by simp) F₃ N₃) (fun ok s₄ h₄ => ?_) fun _ _ x => x
      cases ok with
      | false =>
        obtain ⟨h₅, tk₅, news₅, rfl, F₅, N₅, off₅, hJ₅⟩ := h₄
        have zC := (N₅ (C, oC) (List.mem_cons_of_mem _ List.mem_cons_self)).1
        exact back (stAt N₅ hJ₅) F₅ (hoC.ns zC) (fun p hp => N₅ p (List.mem_cons_of_mem _ (List.mem_cons_of_mem _ hp))) off₅ hJ₅
      | true =>
        refine wpP_mono h₄ (fun y s₅ h₅ => ?_) fun _ _ x => x
        obtain ⟨h₅, tk₅, news₅, rfl, F₅, N₅, off₅, hJ₅⟩ := h₅
        have zC := (N₅ (C, oC) (List.mem_cons_of_mem _ List.mem_cons_self)).1
        have hyl := hlen _ _ _ hJ
        refine append_L (pre := [(I, oI), (C, oC)]) (post := news₅) F₅ N₅ (fun p hp => by
          rcases List.mem_cons.mp hp with rfl | hp
          · exact hID
          · rw [List.mem_singleton.mp hp]; exact hCD) (fun p hp => (off₅ p hp).2.2) (fun h₆ F₆ N₆ => ?_) (by omega)
        have N₆' : News h₀ L h₆ ((D, lstN (ys ++ [y])) :: news₅) := fun p hp => by
          have e : lstN (ys ++ [y]) = listOf (ys ++ [y]).toArray (ys.length + 1) := by simp [lstN]
          rw [e] at hp
          exact N₆ p (List.mem_append.mpr (.inr hp))
        have zC₆ := (N₆ (C, oC) (List.mem_append.mpr (.inl (List.mem_cons_of_mem _ List.mem_cons_self)))).1
        have zI₆ := (N₆ (I, oI) (List.mem_append.mpr (.inl List.mem_cons_self))).1
        refine back (W.frame _ _ _ (stAt N₅ hJ₅) fun b hb o e => ?_) F₆ (hoC.ns zC₆) N₆' off₅ hJ₅
        rcases List.mem_cons.mp hb with rfl | hb
        · have := (N₅ (b, oI) List.mem_cons_self).1
          rw [this] at e; cases e; exact zI₆
        · obtain ⟨p, hp, rfl⟩ := List.mem_map.mp hb
          have h1 := (N₅ p (List.mem_cons_of_mem _ (List.mem_cons_of_mem _ (List.mem_cons_of_mem _ (hkeep _ _ _ hJ₅ p hp))))).1
          have h2 := (N₆' p (List.mem_cons_of_mem _ (hkeep _ _ _ hJ₅ p hp))).1
          rw [h1] at e; cases e; exact h2
    · rintro s' h₂ tk₂ ⟨h', tk, ys, m', news', rfl, st, F', hn', N', off', hin, hJ⟩ hk
      refine hRR D C h₂ tk₂ m' ys news' (LCg.fr_but F' hk hIL hI₀) (LCg.news_but N' hk fun p hp => by
        rcases List.mem_cons.mp hp with rfl | hp
        · exact Ne.symm hID
        · exact (off' p hp).1) (fun p hp => ⟨(off' p hp).2.2, (off' p hp).2.1⟩) (hn'.at' fun o e => hk _ o (by simpa using Ne.symm hIC) e) hC₀ hD₀ hCL hDL hCD hJ
    · rcases List.mem_cons.mp hp with rfl | hp
      · exact ⟨hacc, hDL, hD₀⟩
      · exact ⟨old _ _ (N p hp).1, (N p hp).2⟩
  exact compStartP K loop (W.self 0 _ _ _ hst₁ loop)
end
end Mine
end
section
open PySem PySem.W PyProof.Rows PySem.Calls
set_option maxRecDepth 100000
namespace Mine
section
variable {P : Ctx → Prop} {prog : Program} {w : World} {A : Around} {E : Value → Shared → Prop} {s : Shared} {env : Env} {h₀ : Heap} {L : Addr} {m : Str → Option Value} {news : List (Addr × Obj)} {elt iter : Expr} {ifs : List Expr} {x : Str} {px : Pos} {scope : Scope} {cl : List (Str × Addr)} {pos : Pos} {use : Option (Value → Sem Unit)} {Q : Value → Shared → Prop}
/-- what is left of a comprehension when its source has been evaluated -/
noncomputable def CGoal (P : Ctx → Prop) (prog : Program) (w : World) (A : Around) (E : Value → Shared → Prop) (use : Option (Value → Sem Unit)) (Q : Value → Shared → Prop) (e : Expr) (scope : Scope) (cl : List (Str × Addr)) (env : Env) (xv : Value) (s₁ : Shared) : Prop :=
  wpAny (model prog w) A (pyIter xv) (fun it s₂ => wpAny (model prog w) A (newList []) (fun acc s₃ =>
      wpAny (model prog w) A (newFunctionEnv scope env.globals cl [] env.qual none .none (some env)) (fun cenv s₄ =>
        codeP P (model prog w) A (.compStart e 0 it acc { cenv with scope := relabel scope env }) (CPost (model prog w) A E use Q acc cenv.locals) s₄) E s₃) E s₂) E s₁
theorem eval_LC (K : Kept P) (hclos : closureFor scope env = pure cl) (hkind : scope.kind = .function) (hnames : ∀ x ∈ scope.names, x.2 = .local → scope.names.lookup x.1 = some .local)
    (h : wpP P (model prog w) A (eval iter env) (CGoal P prog w A E none Q (.ListComp elt [⟨.Name x px, iter, ifs, 0⟩] scope pos) scope cl env) E s)
    (hs : ∀ x, foldedSetIterable iter env x = pure x := by intro _; rfl) :
    wpP P (model prog w) A (eval (.ListComp elt [⟨.Name x px, iter, ifs, 0⟩] scope pos) env) Q E s := by
  rw [eval_ListComp]
  exact compP K rfl hs hclos hkind hnames h
theorem Assign_LC (K : Kept P) {y : Str} {py spos : Pos} {QF : Flow → Shared → Prop}
    (hsw : swapsWith (.ListComp elt [⟨.Name x px, iter, ifs, 0⟩] scope pos) (some (.Name y py)) spos.line env = pure true)
    (hclos : closureFor scope env = pure cl) (hkind : scope.kind = .function) (hnames : ∀ x ∈ scope.names, x.2 = .local → scope.names.lookup x.1 = some .local)
    (h : wpP P (model prog w) A (eval iter env) (CGoal P prog w A E (some (assign (.Name y py) env)) (fun _ s' => QF .next s') (.ListComp elt [⟨.Name x px, iter, ifs, 0⟩] scope pos) scope cl env) E s)
    (hs : ∀ x, foldedSetIterable iter env x = pure x := by intro _; rfl) :
    wpP P (model prog w) A (exec (.Assign [.Name y py] (.ListComp elt [⟨.Name x px, iter, ifs, 0⟩] scope pos) spos) env) QF E s := by
  rw [exec_Assign_Name_used _ _ _ _ hsw]
  refine wpP_bind (wpP_standAt (wpP_bind ?_))
  show wpP P _ A (do let _ ← comprehension (.ListComp elt [⟨.Name x px, iter, ifs, 0⟩] scope pos) scope env _ (newList []) false (eval iter env) (some (assign (.Name y py) env))) _ _ s
  exact wpP_bind (wpP_mono (compP K (use := some (assign (.Name y py) env)) (Q := fun _ s' => QF .next s') rfl hs hclos hkind hnames h) (fun _ s' hq => wpP_pure (wpP_pure hq)) fun _ _ e => e)
/-- where the list goes -/
noncomputable def CFin (M : Model) (A : Around) (E : Value → Shared → Prop) (use : Option (Value → Sem Unit)) (Q : Value → Shared → Prop) (h₀ : Heap) (L : Addr) (m : Str → Option Value) (s : Shared) (ys : List Value) (news : List (Addr × Obj)) : Prop :=
  ∀ D C h tk m', Fr h₀ L h m → News h₀ L h ((D, lstN ys) :: news) → (∀ p ∈ news, p.1 ≠ D ∧ p.1 ≠ C) → h.Ns C m' → h₀.get? C = none → h₀.get? D = none → C ≠ L → D ≠ L → C ≠ D → CPost M A E use Q (.ref D) C (.ok .next) { s with heap := h, toks := tk }
theorem CFin.eval {M : Model} {ys : List Value} (h : ∀ D h tk, Fr h₀ L h m → News h₀ L h ((D, lstN ys) :: news) → (∀ p ∈ news, p.1 ≠ D) → Q (.ref D) { s with heap := h, toks := tk }) : CFin M A E none Q h₀ L m s ys news := by
  intro D C g tk m' F N off hn hC₀ hD₀ hCL hDL hCD
  refine ⟨m', hn, fun h'' hs'' => h D h'' tk (F.change hs'' hCL hC₀) (fun p hp => ?_) fun p hp => (off p hp).1⟩
  refine ⟨hs''.extBut _ _ ?_ (N p hp).1, (N p hp).2⟩
  rcases List.mem_cons.mp hp with rfl | hp
  · exact Ne.symm hCD
  · exact (off p hp).2
theorem CFin.assign {M : Model} {ys : List Value} {y : Str} {py : Pos} {QF : Flow → Shared → Prop} (hLe : env.locals = L) (hy : env.kindOf y = some .local) (hp : (env.scope.kind == .class || (env.scope.kind == .module && env.locals != env.globals)) = false)
    (h : ∀ D h tk, Fr h₀ L h (fun z => if z = y then some (.ref D) else m z) → News h₀ L h ((D, lstN ys) :: news) → (∀ p ∈ news, p.1 ≠ D) → QF .next { s with heap := h, toks := tk }) : CFin M A E (some (assign (.Name y py) env)) (fun _ s' => QF .next s') h₀ L m s ys news := by
  subst hLe
  intro D C g tk m' F N off hn hC₀ hD₀ hCL hDL hCD
  show wpAny _ A (assign (.Name y py) env (.ref D)) _ _ _
  refine wpAny_assign_Name (wpAny_storeName_local hy F.ns (fun h₂ hn₂ hs₂ => ?_) hp)
  have hL₀ : h₀.get? env.locals = none := Heap.get?_none_of_le F.above
  have F₂ : Fr h₀ env.locals h₂ (fun z => if z = y then some (.ref D) else m z) := ⟨hn₂, fun b o e => hs₂.extBut b o (fun q => by rw [q, hL₀] at e; cases e) (F.keep b o e), F.above⟩
  refine ⟨m', hn.sameBut hs₂ hCL, fun h'' hs'' => h D h'' _ (F₂.change hs'' hCL hC₀) (fun p hp => ?_) fun p hp => (off p hp).1⟩
  have z : h₂.get? p.1 = some p.2 := hs₂.extBut _ _ (N p hp).2.1 (N p hp).1
  refine ⟨hs''.extBut _ _ ?_ z, (N p hp).2⟩
  rcases List.mem_cons.mp hp with rfl | hp
  · exact Ne.symm hCD
  · exact (off p hp).2
/-- one turn of a comprehension, from what the ledger is -/
abbrev CStep (P : Ctx → Prop) (prog : Program) (w : World) (A : Around) (env : Env) (elt : Expr) (ifs : List Expr) (x : Str) (scope : Scope) (cl : List (Str × Addr)) (h₀ : Heap) (L : Addr) (m : Str → Option Value) (s : Shared) (v : Value) (ys : List Value) (news₁ : List (Addr × Obj)) (J : List Value → List (Addr × Obj) → Prop) : Prop :=
  ∀ h₁ tk₁ I oI C oC D m₂, Off3 I C D news₁ → (@Ne Nat I C ∧ @Ne Nat I D ∧ @Ne Nat C D) → LCg.NsObj oC m₂ → m₂ x = some v → Fr h₀ L h₁ m → News h₀ L h₁ ((I, oI) :: (C, oC) :: (D, lstN ys) :: news₁) →
    CTurn P prog w A (compEnvC scope cl C env) elt ifs h₀ L m s I oI C oC D ys J { s with heap := h₁, toks := tk₁ }
theorem comp_lst (K : Kept P) {a : Addr} {vs : List Value} {k : Nat} (hh : A.handled = none) (hcell : ∀ y ∈ scope.names, y.2 ≠ .cell) (hkind : scope.kind = .function) (hx : scope.names.lookup x = some .local)
    (F : Fr h₀ L s.heap m) (N : News h₀ L s.heap news) (hm : (a, lstObj vs k) ∈ news) (hsz : vs.length ≤ 1000000)
    (J : Nat → List Value → List (Addr × Obj) → Prop) (hkeep : ∀ i ys nw, J i ys nw → (a, lstObj vs k) ∈ nw) (hlen : ∀ i ys nw, J i ys nw → ys.length ≤ i) (h0 : J 0 [] news)
    (turn : ∀ i v ys news₁, vs[i]? = some v → J i ys news₁ → CStep P prog w A env elt ifs x scope cl h₀ L m s v ys news₁ (J (i + 1)))
    (fin : ∀ ys news', J vs.length ys news' → CFin (model prog w) A E use Q h₀ L m s ys news') :
    CGoal P prog w A E use Q (.ListComp elt [⟨.Name x px, iter, ifs, 0⟩] scope pos) scope cl env (.ref a) s := by
  have hT : s.heap.IsList a vs.toArray := ⟨_, (N _ hm).1, rfl, _, rfl⟩
  have hlt : a < s.heap.objs.size := Heap.lt_size (N _ hm).1
  refine wpAny_pyIter_list hT ?_
  have up : ∀ b o, s.heap.get? b = some o → (s.heap.push { cls := .type "list_iterator", data := .fields #[.ref a, .int 0 0] }).get? b = some o := fun b o e => Heap.get?_push_of_some _ e
  obtain ⟨f1, f2⟩ := fresh_I F
  exact block_P (s := { s with heap := s.heap.push { cls := .type "list_iterator", data := .fields #[.ref a, .int 0 0] } }) K (keep := [(a, lstObj vs k)]) (Walks.list hh s.heap.objs.size a (Nat.ne_of_lt hlt) vs.toArray) (by simpa using hsz)
    (fun i h st => by obtain ⟨o, e, _⟩ := st.1; exact ⟨o, e⟩) hcell hkind hx ⟨⟨_, Heap.get?_push_size _ rfl, rfl, rfl⟩, hT.at fun o e => up _ _ e⟩ (F.keeps up) (N.grown up) f1 f2 (fun p hp => Nat.ne_of_lt (Heap.lt_size (N p hp).1))
    J (fun i ys nw hJ p hp => by rw [List.mem_singleton.mp hp]; exact hkeep i ys nw hJ) hlen h0
    (fun i v ys news₁ h₁ tk₁ oI C oC D m₂ _ hv hJ off ne hoC hm₂ F₁ N₁ => turn i v ys news₁ (by simpa using hv) hJ h₁ tk₁ _ oI C oC D m₂ off ne hoC hm₂ F₁ N₁)
    (fun D C h tk m' ys news' F' N' off hn hC₀ hD₀ hCL hDL hCD hJ => fin ys news' (by simpa using hJ) D C h tk m' F' N' off hn hC₀ hD₀ hCL hDL hCD)
theorem comp_tup (K : Kept P) {a : Addr} {vs : List Value} {k : Nat} (hh : A.handled = none) (hcell : ∀ y ∈ scope.names, y.2 ≠ .cell) (hkind : scope.kind = .function) (hx : scope.names.lookup x = some .local)
    (F : Fr h₀ L s.heap m) (N : News h₀ L s.heap news) (hm : (a, tupObj vs k) ∈ news) (hsz : vs.length ≤ 1000000)
    (J : Nat → List Value → List (Addr × Obj) → Prop) (hkeep : ∀ i ys nw, J i ys nw → (a, tupObj vs k) ∈ nw) (hlen : ∀ i ys nw, J i ys nw → ys.length ≤ i) (h0 : J 0 [] news)
    (turn : ∀ i v ys news₁, vs[i]? = some v → J i ys news₁ → CStep P prog w A env elt ifs x scope cl h₀ L m s v ys news₁ (J (i + 1)))
    (fin : ∀ ys news', J vs.length ys news' → CFin (model prog w) A E use Q h₀ L m s ys news') :
    CGoal P prog w A E use Q (.ListComp elt [⟨.Name x px, iter, ifs, 0⟩] scope pos) scope cl env (.ref a) s := by
  have hT : s.heap.IsTuple a vs.toArray := ⟨_, (N _ hm).1, rfl, _, rfl⟩
  have hlt : a < s.heap.objs.size := Heap.lt_size (N _ hm).1
  refine wpAny_pyIter_tuple hT ?_
  have up : ∀ b o, s.heap.get? b = some o → (s.heap.push { cls := .type "tuple_iterator", data := .fields #[.ref a, .int 0 0] }).get? b = some o := fun b o e => Heap.get?_push_of_some _ e
  obtain ⟨f1, f2⟩ := fresh_I F
  exact block_P (s := { s with heap := s.heap.push { cls := .type "tuple_iterator", data := .fields #[.ref a, .int 0 0] } }) K (keep := [(a, tupObj vs k)]) (Walks.tuple hh s.heap.objs.size a (Nat.ne_of_lt hlt) vs.toArray) (by simpa using hsz)
    (fun i h st => by obtain ⟨o, e, _⟩ := st.1; exact ⟨o, e⟩) hcell hkind hx ⟨⟨_, Heap.get?_push_size _ rfl, rfl, rfl⟩, hT.at fun o e => up _ _ e⟩ (F.keeps up) (N.grown up) f1 f2 (fun p hp => Nat.ne_of_lt (Heap.lt_size (N p hp).1))
    J (fun i ys nw hJ p hp => by rw [List.mem_singleton.mp hp]; exact hkeep i ys nw hJ) hlen h0
    (fun i v ys news₁ h₁ tk₁ oI C oC D m₂ _ hv hJ off ne hoC hm₂ F₁ N₁ => turn i v ys news₁ (by simpa using hv) hJ h₁ tk₁ _ oI C oC D m₂ off ne hoC hm₂ F₁ N₁)
    (fun D C h tk m' ys news' F' N' off hn hC₀ hD₀ hCL hDL hCD hJ => fin ys news' (by simpa using hJ) D C h tk m' F' N' off hn hC₀ hD₀ hCL hDL hCD)
theorem comp_rng (K : Kept P) {a b c : Int} {r : Addr} {t u v : Tok} {n : Nat} (hh : A.handled = none) (hcell : ∀ y ∈ scope.names, y.2 ≠ .cell) (hkind : scope.kind = .function) (hx : scope.names.lookup x = some .local)
    (hsm : Builtin.Range.small a b c = true) (hn : Builtin.Range.rangeSize a b c = (n : Int)) (hr : IsRange s.heap r a b c t u v)
    (F : Fr h₀ L s.heap m) (N : News h₀ L s.heap news) (hsz : n ≤ 1000000)
    (J : Nat → List Value → List (Addr × Obj) → Prop) (hlen : ∀ i ys nw, J i ys nw → ys.length ≤ i) (h0 : J 0 [] news)
    (turn : ∀ i t ys news₁, i < n → J i ys news₁ → CStep P prog w A env elt ifs x scope cl h₀ L m s (.int (a + i * c) t) ys news₁ (J (i + 1)))
    (fin : ∀ ys news', J n ys news' → CFin (model prog w) A E use Q h₀ L m s ys news') :
    CGoal P prog w A E use Q (.ListComp elt [⟨.Name x px, iter, ifs, 0⟩] scope pos) scope cl env (.ref r) s := by
  refine wpAny_pyIter_range hr hsm ?_
  have up : ∀ b' o, s.heap.get? b' = some o → (s.heap.push { cls := .type "range_iterator", data := .fields #[rawInt a, rawInt (Builtin.Range.rangeSize a b c), rawInt c] }).get? b' = some o := fun b o e => Heap.get?_push_of_some _ e
  obtain ⟨f1, f2⟩ := fresh_I F
  exact block_P (s := { s with heap := s.heap.push { cls := .type "range_iterator", data := .fields #[rawInt a, rawInt (Builtin.Range.rangeSize a b c), rawInt c] } }) K (keep := []) (Walks.range hh s.heap.objs.size a c n) hsz
    (fun i h st => ⟨_, st⟩) hcell hkind hx (by show IsRangeIter _ _ _ _ _; rw [hn]; simpa using Heap.get?_push_size _ rfl) (F.keeps up) (N.grown up) f1 f2 (fun p hp => Nat.ne_of_lt (Heap.lt_size (N p hp).1))
    J (fun i ys nw hJ p hp => nomatch hp) hlen h0
    (fun i v ys news₁ h₁ tk₁ oI C oC D m₂ hi hv hJ off ne hoC hm₂ F₁ N₁ => by obtain ⟨t, rfl⟩ := hv; exact turn i t ys news₁ hi hJ h₁ tk₁ _ oI C oC D m₂ off ne hoC hm₂ F₁ N₁)
    (fun D C h tk m' ys news' F' N' off hn hC₀ hD₀ hCL hDL hCD hJ => fin ys news' hJ D C h tk m' F' N' off hn hC₀ hD₀ hCL hDL hCD)
theorem Tests_nil {cenv : Env} {M : Model} {Q : Bool → Shared → Prop} (h : Q true s) : wpP P M A (TestsOf [] cenv) Q E s := wpP_pure h
theorem Tests_one {cenv : Env} {c : Expr} {Q : Bool → Shared → Prop} (h : wpP P (model prog w) A (isTrue c cenv (eval c cenv)) Q E s) : wpP P (model prog w) A (TestsOf [c] cenv) Q E s := by
  unfold TestsOf
  simp only [List.forIn_cons, List.forIn_nil, if_true]
  exact wpP_bind (wpP_bind (wpP_mono h (fun b s' hb => wpP_pure (wpP_pure hb)) fun _ _ x => x))
end
end Mine
end
section
open PySem PySem.W PyProof.Rows PySem.Calls
set_option maxRecDepth 100000
namespace Mine
theorem CEnd.intro0 {h₀ : Heap} {L : Addr} {m : Str → Option Value} {s : Shared} {I : Addr} {oI : Obj} {C : Addr} {oC : Obj} {D : Addr} {ys : List Value} {J : Value → List (Addr × Obj) → Prop} {y : Value} {h' : Heap} {tk' : Nat} {nw : List (Addr × Obj)}
    (F : Fr h₀ L h' m) (N : News h₀ L h' ((I, oI) :: (C, oC) :: (D, lstN ys) :: nw)) (off : Off3 I C D nw) (hJ : J y nw) : CEnd h₀ L m s I oI C oC D ys J y { s with heap := h', toks := tk' } :=
  CEnd.intro nw F N (fun _ h => h) off hJ
/-- a turn that made one thing -/
theorem CEnd.intro1 {h₀ : Heap} {L : Addr} {m : Str → Option Value} {s : Shared} {I : Addr} {oI : Obj} {C : Addr} {oC : Obj} {D : Addr} {ys : List Value} {J : Value → List (Addr × Obj) → Prop} {y : Value} {h' : Heap} {tk' : Nat} {nw : List (Addr × Obj)} {q : Addr × Obj}
    (F : Fr h₀ L h' m) (N : News h₀ L h' (q :: (I, oI) :: (C, oC) :: (D, lstN ys) :: nw)) (lt : ∀ p ∈ (I, oI) :: (C, oC) :: (D, lstN ys) :: nw, p.1 < q.1) (off : Off3 I C D nw) (hJ : J y (q :: nw)) : CEnd h₀ L m s I oI C oC D ys J y { s with heap := h', toks := tk' } := by
  have h1 := lt (I, oI) (by simp)
  have h2 := lt (C, oC) (by simp)
  have h3 := lt (D, lstN ys) (by simp)
  refine CEnd.intro (q :: nw) F N (fun p hp => ?_) (fun p hp => ?_) hJ
  · simp only [List.mem_cons] at hp ⊢
    rcases hp with rfl | rfl | rfl | rfl | hp
    · exact .inr (.inl rfl)
    · exact .inr (.inr (.inl rfl))
    · exact .inr (.inr (.inr (.inl rfl)))
    · exact .inl rfl
    · exact .inr (.inr (.inr (.inr hp)))
  · rcases List.mem_cons.mp hp with rfl | hp
    · exact ⟨Nat.ne_of_gt h1, Nat.ne_of_gt h2, Nat.ne_of_gt h3⟩
    · exact off p hp
theorem CEnd.intro2 {h₀ : Heap} {L : Addr} {m : Str → Option Value} {s : Shared} {I : Addr} {oI : Obj} {C : Addr} {oC : Obj} {D : Addr} {ys : List Value} {J : Value → List (Addr × Obj) → Prop} {y : Value} {h' : Heap} {tk' : Nat} {nw : List (Addr × Obj)} {q : Addr × Obj}
    (F : Fr h₀ L h' m) (N : News h₀ L h' (q :: (I, oI) :: (C, oC) :: (D, lstN ys) :: nw)) (ne : ∀ p ∈ (I, oI) :: (C, oC) :: (D, lstN ys) :: nw, p.1 ≠ q.1) (off : Off3 I C D nw) (hJ : J y (q :: nw)) : CEnd h₀ L m s I oI C oC D ys J y { s with heap := h', toks := tk' } := by
  have h1 := ne (I, oI) (by simp)
  have h2 := ne (C, oC) (by simp)
  have h3 := ne (D, lstN ys) (by simp)
  refine CEnd.intro (q :: nw) F N (fun p hp => ?_) (fun p hp => ?_) hJ
  · simp only [List.mem_cons] at hp ⊢
    rcases hp with rfl | rfl | rfl | rfl | hp
    · exact .inr (.inl rfl)
    · exact .inr (.inr (.inl rfl))
    · exact .inr (.inr (.inr (.inl rfl)))
    · exact .inl rfl
    · exact .inr (.inr (.inr (.inr hp)))
  · rcases List.mem_cons.mp hp with rfl | hp
    · exact ⟨Ne.symm h1, Ne.symm h2, Ne.symm h3⟩
    · exact off p hp
theorem CEnd.mono {h₀ : Heap} {L : Addr} {m : Str → Option Value} {s : Shared} {I : Addr} {oI : Obj} {C : Addr} {oC : Obj} {D : Addr} {ys : List Value} {J J' : Value → List (Addr × Obj) → Prop} {y : Value} {s' : Shared}
    (h : CEnd h₀ L m s I oI C oC D ys J y s') (k : ∀ nw, J y nw → J' y nw) : CEnd h₀ L m s I oI C oC D ys J' y s' := by
  obtain ⟨h', tk', nw, e, F, N, off, hJ⟩ := h
  exact ⟨h', tk', nw, e, F, N, off, k nw hJ⟩
section
variable {P : Ctx → Prop} {prog : Program} {w : World} {A : Around} {E : Value → Shared → Prop} {s : Shared} {env : Env} {h₀ : Heap} {L : Addr} {m : Str → Option Value} {news : List (Addr × Obj)} {elt iter : Expr} {ifs : List Expr} {x : Str} {px : Pos} {scope : Scope} {cl : List (Str × Addr)} {pos : Pos} {use : Option (Value → Sem Unit)} {Q : Value → Shared → Prop}
theorem CStep.mono {v : Value} {ys : List Value} {nw : List (Addr × Obj)} {J J' : List Value → List (Addr × Obj) → Prop} (h : CStep P prog w A env elt ifs x scope cl h₀ L m s v ys nw J)
    (k : ∀ ys nw, J ys nw → J' ys nw) : CStep P prog w A env elt ifs x scope cl h₀ L m s v ys nw J' := by
  intro h₁ tk₁ I oI C oC D m₂ off ne hoC hm F N
  refine wpP_mono (h h₁ tk₁ I oI C oC D m₂ off ne hoC hm F N) (fun ok s₃ h₃ => ?_) fun _ _ x => x
  cases ok with
  | true =>
    rw [if_pos rfl] at h₃ ⊢
    exact wpP_mono h₃ (fun y s₄ h₄ => h₄.mono fun nw hJ => k _ _ hJ) fun _ _ x => x
  | false =>
    rw [if_neg (by decide)] at h₃ ⊢
    exact h₃.mono fun nw hJ => k _ _ hJ
theorem CFin.assignQ {M : Model} {ys : List Value} {y : Str} {py : Pos} (hLe : env.locals = L) (hy : env.kindOf y = some .local) (hp : (env.scope.kind == .class || (env.scope.kind == .module && env.locals != env.globals)) = false)
    (h : ∀ D h tk, Fr h₀ L h (fun z => if z = y then some (.ref D) else m z) → News h₀ L h ((D, lstN ys) :: news) → (∀ p ∈ news, p.1 ≠ D) → Q .none { s with heap := h, toks := tk }) : CFin M A E (some (PySem.assign (Expr.Name y py) env)) Q h₀ L m s ys news := by
  subst hLe
  intro D C g tk m' F N off hn hC₀ hD₀ hCL hDL hCD
  show wpAny _ A (PySem.assign (Expr.Name y py) env (.ref D)) _ _ _
  refine wpAny_assign_Name (wpAny_storeName_local hy F.ns (fun h₂ hn₂ hs₂ => ?_) hp)
  have hL₀ : h₀.get? env.locals = none := Heap.get?_none_of_le F.above
  have F₂ : Fr h₀ env.locals h₂ (fun z => if z = y then some (.ref D) else m z) := ⟨hn₂, fun b o e => hs₂.extBut b o (fun q => by rw [q, hL₀] at e; cases e) (F.keep b o e), F.above⟩
  refine ⟨m', hn.sameBut hs₂ hCL, fun h'' hs'' => h D h'' _ (F₂.change hs'' hCL hC₀) (fun p hp => ?_) fun p hp => (off p hp).1⟩
  have z : h₂.get? p.1 = some p.2 := hs₂.extBut _ _ (N p hp).2.1 (N p hp).1
  refine ⟨hs''.extBut _ _ ?_ z, (N p hp).2⟩
  rcases List.mem_cons.mp hp with rfl | hp
  · exact Ne.symm hCD
  · exact (off p hp).2
/-- two items, turn by turn -/
theorem comp_tup2 (K : Kept P) {a : Addr} {v0 v1 : Value} {k : Nat} (hh : A.handled = none) (hcell : ∀ y ∈ scope.names, y.2 ≠ .cell) (hkind : scope.kind = .function) (hx : scope.names.lookup x = some .local)
    (F : Fr h₀ L s.heap m) (N : News h₀ L s.heap news) (hm : (a, tupObj [v0, v1] k) ∈ news)
    (turn : CStep P prog w A env elt ifs x scope cl h₀ L m s v0 [] news (fun ys nw => ys.length ≤ 1 ∧ (a, tupObj [v0, v1] k) ∈ nw ∧ CStep P prog w A env elt ifs x scope cl h₀ L m s v1 ys nw (fun ys nw => ys.length ≤ 2 ∧ (a, tupObj [v0, v1] k) ∈ nw ∧ CFin (model prog w) A E use Q h₀ L m s ys nw))) :
    CGoal P prog w A E use Q (.ListComp elt [⟨.Name x px, iter, ifs, 0⟩] scope pos) scope cl env (.ref a) s := by
  refine comp_tup K hh hcell hkind hx F N hm (Nat.le_of_ble_eq_true rfl) (fun i ys nw => (a, tupObj [v0, v1] k) ∈ nw ∧ ys.length ≤ i ∧ (i = 0 → ys = [] ∧ nw = news) ∧ (i = 1 → CStep P prog w A env elt ifs x scope cl h₀ L m s v1 ys nw (fun ys nw => ys.length ≤ 2 ∧ (a, tupObj [v0, v1] k) ∈ nw ∧ CFin (model prog w) A E use Q h₀ L m s ys nw)) ∧ (i = 2 → CFin (model prog w) A E use Q h₀ L m s ys nw))
    (fun _ _ _ h => h.1) (fun _ _ _ h => h.2.1) ⟨hm, Nat.le_refl _, fun _ => ⟨rfl, rfl⟩, fun h => absurd h (by decide), fun h => absurd h (by decide)⟩ ?_ (fun ys nw h => h.2.2.2.2 rfl)
  intro i v ys nw hv hJ
  match i, hv with
  | 0, hv =>
    obtain ⟨rfl, rfl⟩ := hJ.2.2.1 rfl
    obtain rfl : v0 = v := by simpa using hv
    exact turn.mono fun ys nw h => ⟨h.2.1, h.1, fun e => absurd e (by decide), fun _ => h.2.2, fun e => absurd e (by decide)⟩
  | 1, hv =>
    obtain rfl : v1 = v := by simpa using hv
    exact (hJ.2.2.2.1 rfl).mono fun ys nw h => ⟨h.2.1, h.1, fun e => absurd e (by decide), fun e => absurd e (by decide), fun _ => h.2.2⟩
  | i + 2, hv => simp at hv
theorem comp_lst2 (K : Kept P) {a : Addr} {v0 v1 : Value} {k : Nat} (hh : A.handled = none) (hcell : ∀ y ∈ scope.names, y.2 ≠ .cell) (hkind : scope.kind = .function) (hx : scope.names.lookup x = some .local)
    (F : Fr h₀ L s.heap m) (N : News h₀ L s.heap news) (hm : (a, lstObj [v0, v1] k) ∈ news)
    (turn : CStep P prog w A env elt ifs x scope cl h₀ L m s v0 [] news (fun ys nw => ys.length ≤ 1 ∧ (a, lstObj [v0, v1] k) ∈ nw ∧ CStep P prog w A env elt ifs x scope cl h₀ L m s v1 ys nw (fun ys nw => ys.length ≤ 2 ∧ (a, lstObj [v0, v1] k) ∈ nw ∧ CFin (model prog w) A E use Q h₀ L m s ys nw))) :
    CGoal P prog w A E use Q (.ListComp elt [⟨.Name x px, iter, ifs, 0⟩] scope pos) scope cl env (.ref a) s := by
  refine comp_lst K hh hcell hkind hx F N hm (Nat.le_of_ble_eq_true rfl) (fun i ys nw => (a, lstObj [v0, v1] k) ∈ nw ∧ ys.length ≤ i ∧ (i = 0 → ys = [] ∧ nw = news) ∧ (i = 1 → CStep P prog w A env elt ifs x scope cl h₀ L m s v1 ys nw (fun ys nw => ys.length ≤ 2 ∧ (a, lstObj [v0, v1] k) ∈ nw ∧ CFin (model prog w) A E use Q h₀ L m s ys nw)) ∧ (i = 2 → CFin (model prog w) A E use Q h₀ L m s ys nw))
    (fun _ _ _ h => h.1) (fun _ _ _ h => h.2.1) ⟨hm, Nat.le_refl _, fun _ => ⟨rfl, rfl⟩, fun h => absurd h (by decide), fun h => absurd h (by decide)⟩ ?_ (fun ys nw h => h.2.2.2.2 rfl)
  intro i v ys nw hv hJ
  match i, hv with
  | 0, hv =>
    obtain ⟨rfl, rfl⟩ := hJ.2.2.1 rfl
    obtain rfl : v0 = v := by simpa using hv
    exact turn.mono fun ys nw h => ⟨h.2.1, h.1, fun e => absurd e (by decide), fun _ => h.2.2, fun e => absurd e (by decide)⟩
  | 1, hv =>
    obtain rfl : v1 = v := by simpa using hv
    exact (hJ.2.2.2.1 rfl).mono fun ys nw h => ⟨h.2.1, h.1, fun e => absurd e (by decide), fun e => absurd e (by decide), fun _ => h.2.2⟩
  | i + 2, hv => simp at hv
end
end Mine
end
section
open PySem PySem.W PyProof.Rows PySem.Calls
set_option maxRecDepth 100000
namespace Mine
section
variable {prog : Program} {w : World} {A : Around} {E : Value → Shared → Prop} {s : Shared} {h₀ : Heap} {L : Addr} {m : Str → Option Value} {news : List (Addr × Obj)}
theorem turn2_lt {I S a p q : Addr} {n1 n2 : Nat} {vs us : List Value} {xs ys : List (Array UInt8)} {R : Result → Shared → Prop} (hh : A.handled = none) (hr : A.units + 1 < cLine) (hv : BytesAre vs xs) (hu : BytesAre us ys)
    (hS : s.heap.get? S = some { cls := .type "list", dict := none, data := .seq #[] 0, slots := #[] }) (hI : s.heap.IsListIter I a 0) (hl : s.heap.IsList a [Value.ref p, .ref q].toArray)
    (hp : s.heap.get? p = some (listOf vs.toArray n1)) (hq : s.heap.get? q = some (listOf us.toArray n2)) (hne : @Ne Nat S I ∧ @Ne Nat a I ∧ @Ne Nat p I ∧ @Ne Nat q I ∧ @Ne Nat a S ∧ @Ne Nat p S ∧ @Ne Nat q S)
    (hR : ∀ h', (∀ b o, @Ne Nat b I → @Ne Nat b S → s.heap.get? b = some o → h'.get? b = some o) → R (.ok (.ret (if (ordL ys xs == .lt) = true then .ref q else .ref p))) { s with heap := h' }) :
    codeAny (model prog w) A (.builtin "min.loop" ⟨[.ref I, .none, .ref S], []⟩) R s := by
  obtain ⟨n1', n2', n3, n4, n5, n6, n7⟩ := hne
  have hname : (toString "min" ++ toString ".loop" : String) = "min.loop" := by decide
  -- the first item
  refine codeAny_builtin F.entry_min_loop ?_
  rw [Around.under_plainId F.plain_min_loop _]
  show wpAny _ A.in1 (seqItems? (.ref S) >>= _) _ _ s
  refine wpAny_bind (wpAny_seqItems hS rfl ?_)
  show wpAny _ A.in1 (tryCatch (pyNext (.ref I)) _ >>= _) _ _ s
  refine wpAny_bind (wpAny_tryCatch (wpAny_pyNext_list_item hI hl (x := .ref p) (by simp) fun h₁ hI₁ hs₁ => ?_))
  have k1 : ∀ b o, @Ne Nat b I → s.heap.get? b = some o → h₁.get? b = some o := fun b o hb e => (hs₁.2 b hb).trans e
  have hS₁ := k1 _ _ n1' hS
  have hl₁ : h₁.IsList a [Value.ref p, .ref q].toArray := hl.at fun o e => k1 _ o n2' e
  show wpAny _ A.in1 (updateSeq S (fun _ => #[.ref p, .ref p]) >>= _) _ _ _
  refine wpAny_bind ?_
  refine wpAny_updateSeq hS₁ rfl ?_ 
  have hsb₂ : Heap.SameBut S h₁ (h₁.update S (Obj.mapSeq fun _ => #[.ref p, .ref p])) := Heap.SameBut.update ..
  have hS₂ := Heap.get?_update_self (Obj.mapSeq fun _ => #[Value.ref p, .ref p]) hS₁ rfl
  generalize h₁.update S (Obj.mapSeq fun _ => #[Value.ref p, .ref p]) = h₂ at hsb₂ hS₂
  have k2 : ∀ b o, @Ne Nat b S → h₁.get? b = some o → h₂.get? b = some o := fun b o hb e => (hsb₂.2 b hb).trans e
  have hI₂ : h₂.IsListIter I a 1 := hI₁.at fun o e => k2 _ o (Ne.symm n1') e
  have hl₂ : h₂.IsList a [Value.ref p, .ref q].toArray := hl₁.at fun o e => k2 _ o n5 e
  have kk : ∀ b o, @Ne Nat b I → @Ne Nat b S → s.heap.get? b = some o → h₂.get? b = some o := fun b o h1 h2 e => k2 b o h2 (k1 b o h1 e)
  have hp₂ := kk _ _ n3 n6 hp
  have hq₂ := kk _ _ n4 n7 hq
  rw [hname]
  refine wpAny_pure ⟨plainId_quiet F.plain_min_loop _, codeAny_builtin F.entry_min_loop ?_⟩
  -- the second
  rw [Around.under_plainId F.plain_min_loop _]
  show wpAny _ A.in1 (seqItems? (.ref S) >>= _) _ _ _
  refine wpAny_bind (wpAny_seqItems hS₂ rfl ?_)
  show wpAny _ A.in1 (tryCatch (pyNext (.ref I)) _ >>= _) _ _ _
  refine wpAny_bind (wpAny_tryCatch (wpAny_pyNext_list_item hI₂ hl₂ (x := .ref q) (by simp) fun h₃ hI₃ hs₃ => ?_))
  have k3 : ∀ b o, @Ne Nat b I → h₂.get? b = some o → h₃.get? b = some o := fun b o hb e => (hs₃.2 b hb).trans e
  have hS₃ := k3 _ _ n1' hS₂
  have hl₃ : h₃.IsList a [Value.ref p, .ref q].toArray := hl₂.at fun o e => k3 _ o n2' e
  have hp₃ := k3 _ _ n3 hp₂
  have hq₃ := k3 _ _ n4 hq₂
  have kk₃ : ∀ b o, @Ne Nat b I → @Ne Nat b S → s.heap.get? b = some o → h₃.get? b = some o := fun b o h1 h2 e => k3 b o h1 (kk b o h1 h2 e)
  show wpAny _ A.in1 (tryCatch (holding [.ref q, .ref q] (richCompare .Lt (.ref q) (.ref p) >>= _)) _ >>= _) _ _ _
  refine wpAny_bind (wpAny_tryCatch (wpAny_holding (wpAny_bind (rcL_lt hu hv hq₃ hp₃ hr ?_))))
  refine wpAny_bind (wpAny_holding (wpAny_truthy_bool ?_))
  refine wpAny_bind (wpAny_letGo (wpAny_pure ?_))
  -- the end
  have last : ∀ {v : Value} {h₄ : Heap} {c : Nat}, h₄.get? S = some { cls := .type "list", dict := none, data := .seq #[v, v] c, slots := #[] } → h₄.IsListIter I a 2 → h₄.IsList a [Value.ref p, .ref q].toArray →
      (∀ h', (∀ b o, @Ne Nat b I → @Ne Nat b S → h₄.get? b = some o → h'.get? b = some o) → R (.ok (.ret v)) { s with heap := h' }) →
      codeAny (model prog w) A (.builtin "min.loop" ⟨[.ref I, .none, .ref S], []⟩) R { s with heap := h₄ } := by
    intro v h₄ c hS₄ hI₄ hl₄ hR₄
    refine codeAny_builtin F.entry_min_loop ?_
    rw [Around.under_plainId F.plain_min_loop _]
    show wpAny _ A.in1 (seqItems? (.ref S) >>= _) _ _ _
    refine wpAny_bind (wpAny_seqItems hS₄ rfl ?_)
    show wpAny _ A.in1 (tryCatch (pyNext (.ref I)) _ >>= _) _ _ _
    refine wpAny_bind (wpAny_tryCatch (wpAny_pyNext_list_end hh hI₄ hl₄ (by simp) fun h₅ he₅ => ?_))
    have hS₅ := he₅ _ _ n1' hS₄
    show wpAny _ A.in1 (updateSeq S (fun _ => #[]) >>= _) _ _ _
    refine wpAny_bind ?_
    refine wpAny_updateSeq hS₅ rfl (wpAny_bind (wpAny_letGo (wpAny_pure ?_)))
    exact hR₄ _ fun b o h1 h2 e => (Heap.get?_update_other _ _ (Ne.symm h2)).trans (he₅ b o h1 e)
  cases hb : (ordL ys xs == .lt) with
  | true =>
    rw [hb, if_pos rfl] at hR
    simp only [if_true]
    refine wpAny_bind ?_
    refine wpAny_updateSeq hS₃ rfl (wpAny_bind (wpAny_letGo ?_))
    rw [hname]
    have hsb₄ : Heap.SameBut S h₃ (h₃.update S (Obj.mapSeq fun _ => #[.ref q, .ref q])) := Heap.SameBut.update ..
    have k4 : ∀ b o, @Ne Nat b S → h₃.get? b = some o → (h₃.update S (Obj.mapSeq fun _ => #[.ref q, .ref q])).get? b = some o := fun b o hb e => (hsb₄.2 b hb).trans e
    refine wpAny_pure ⟨plainId_quiet F.plain_min_loop _, last (Heap.get?_update_self _ hS₃ rfl) (hI₃.at fun o e => k4 _ o (Ne.symm n1') e) (hl₃.at fun o e => k4 _ o n5 e) fun h' kh => hR h' fun b o h1 h2 e => kh b o h1 h2 (k4 b o h2 (kk₃ b o h1 h2 e))⟩
  | false =>
    rw [hb, if_neg (by decide)] at hR
    simp only [Bool.false_eq_true, if_false]
    refine wpAny_bind (wpAny_letGo ?_)
    rw [hname]
    refine wpAny_pure ⟨plainId_quiet F.plain_min_loop _, last hS₃ hI₃ hl₃ fun h' kh => hR h' fun b o h1 h2 e => kh b o h1 h2 (kk₃ b o h1 h2 e)⟩
theorem call_min2 {a p q : Addr} {k n1 n2 : Nat} {vs us : List Value} {xs ys : List (Array UInt8)} {Q : Value → Shared → Prop} (hh : A.handled = none) (hr : A.units + 1 < cLine) (hv : BytesAre vs xs) (hu : BytesAre us ys)
    (F₁ : Fr h₀ L s.heap m) (N : News h₀ L s.heap news) (hm : (a, listOf [Value.ref p, .ref q].toArray k) ∈ news) (hp : (p, listOf vs.toArray n1) ∈ news) (hq : (q, listOf us.toArray n2) ∈ news)
    (h : ∀ h', Fr h₀ L h' m → News h₀ L h' news → Q (if (ordL ys xs == .lt) = true then .ref q else .ref p) { s with heap := h' }) :
    wpAny (model prog w) A (call (.builtin "min") [.ref a]) Q E s := by
  have hname : (toString "min" ++ toString ".loop" : String) = "min.loop" := by decide
  refine call_function_tree F.kind_min F.plain_min F.entry_min (F.args_min1 _) ?_
  show wpAny _ A.in1 (Builtin.Builtins.bindParams "min" ["key", "default"] 0 ⟨[], []⟩ >>= _) _ _ s
  refine wpAny_bind (wpAny_of_eq (show Builtin.Builtins.bindParams "min" ["key", "default"] 0 ⟨[], []⟩ = pure [none, none] from rfl) ?_)
  refine wpAny_bind (wpAny_pure ?_)
  refine wpAny_bind (wpAny_pyIter_list (isL N hm) ?_)
  have g1 : (s.heap.push { cls := .type "list_iterator", data := .fields #[.ref a, .int 0 0] }).get? s.heap.objs.size = some _ := Heap.get?_push_size _ rfl
  have u1 : ∀ b o, s.heap.get? b = some o → (s.heap.push { cls := .type "list_iterator", data := .fields #[.ref a, .int 0 0] }).get? b = some o := fun b o e => Heap.get?_push_of_some _ e
  have z1 : (s.heap.push { cls := .type "list_iterator", data := .fields #[.ref a, .int 0 0] }).objs.size = s.heap.objs.size + 1 := Heap.size_push ..
  generalize s.heap.push { cls := .type "list_iterator", data := .fields #[.ref a, .int 0 0] } = h₁ at g1 u1 z1
  refine wpAny_bind (wpAny_newObj_type ?_)
  have g2 : (h₁.push { cls := .type "list", data := .seq ([] : List Value).toArray }).get? h₁.objs.size = some { cls := .type "list", dict := none, data := .seq #[] 0, slots := #[] } := Heap.get?_push_size _ rfl
  have u2 : ∀ b o, h₁.get? b = some o → (h₁.push { cls := .type "list", data := .seq ([] : List Value).toArray }).get? b = some o := fun b o e => Heap.get?_push_of_some _ e
  generalize h₁.push { cls := .type "list", data := .seq ([] : List Value).toArray } = h₂ at g2 u2
  rw [hname]
  have lt : ∀ b o, s.heap.get? b = some o → @LT.lt Nat _ b s.heap.objs.size := fun b o e => Heap.lt_size e
  have la := lt _ _ (N _ hm).1
  have lp := lt _ _ (N _ hp).1
  have lq := lt _ _ (N _ hq).1
  have up : ∀ b o, s.heap.get? b = some o → h₂.get? b = some o := fun b o e => u2 b o (u1 b o e)
  refine wpAny_pure ⟨plainId_quiet F.plain_min_loop _, turn2_lt (s := { s with heap := h₂ }) (I := s.heap.objs.size) (S := h₁.objs.size) hh hr hv hu g2 ⟨_, u2 _ _ g1, rfl, rfl⟩ ((isL N hm).at fun o e => up _ o e) (up _ _ (N _ hp).1) (up _ _ (N _ hq).1) ?_ fun h' kh => ?_⟩
  · dsimp only at la lp lq ⊢
    refine ⟨?_, ?_, ?_, ?_, ?_, ?_, ?_⟩ <;> omega
  · have up' : ∀ b o, s.heap.get? b = some o → h'.get? b = some o := fun b o e => kh b o (Nat.ne_of_lt (lt _ _ e)) (by have := lt _ _ e; omega) (up b o e)
    exact h h' (F₁.keeps up') (N.grown up')
theorem turn2_gt {I S a p q : Addr} {n1 n2 : Nat} {vs us : List Value} {xs ys : List (Array UInt8)} {R : Result → Shared → Prop} (hh : A.handled = none) (hr : A.units + 1 < cLine) (hv : BytesAre vs xs) (hu : BytesAre us ys)
    (hS : s.heap.get? S = some { cls := .type "list", dict := none, data := .seq #[] 0, slots := #[] }) (hI : s.heap.IsListIter I a 0) (hl : s.heap.IsList a [Value.ref p, .ref q].toArray)
    (hp : s.heap.get? p = some (listOf vs.toArray n1)) (hq : s.heap.get? q = some (listOf us.toArray n2)) (hne : @Ne Nat S I ∧ @Ne Nat a I ∧ @Ne Nat p I ∧ @Ne Nat q I ∧ @Ne Nat a S ∧ @Ne Nat p S ∧ @Ne Nat q S)
    (hR : ∀ h', (∀ b o, @Ne Nat b I → @Ne Nat b S → s.heap.get? b = some o → h'.get? b = some o) → R (.ok (.ret (if (ordL ys xs == .gt) = true then .ref q else .ref p))) { s with heap := h' }) :
    codeAny (model prog w) A (.builtin "max.loop" ⟨[.ref I, .none, .ref S], []⟩) R s := by
  obtain ⟨n1', n2', n3, n4, n5, n6, n7⟩ := hne
  have hname : (toString "max" ++ toString ".loop" : String) = "max.loop" := by decide
  -- the first item
  refine codeAny_builtin F.entry_max_loop ?_
  rw [Around.under_plainId F.plain_max_loop _]
  show wpAny _ A.in1 (seqItems? (.ref S) >>= _) _ _ s
  refine wpAny_bind (wpAny_seqItems hS rfl ?_)
  show wpAny _ A.in1 (tryCatch (pyNext (.ref I)) _ >>= _) _ _ s
  refine wpAny_bind (wpAny_tryCatch (wpAny_pyNext_list_item hI hl (x := .ref p) (by simp) fun h₁ hI₁ hs₁ => ?_))
  have k1 : ∀ b o, @Ne Nat b I → s.heap.get? b = some o → h₁.get? b = some o := fun b o hb e => (hs₁.2 b hb).trans e
  have hS₁ := k1 _ _ n1' hS
  have hl₁ : h₁.IsList a [Value.ref p, .ref q].toArray := hl.at fun o e => k1 _ o n2' e
  show wpAny _ A.in1 (updateSeq S (fun _ => #[.ref p, .ref p]) >>= _) _ _ _
  refine wpAny_bind ?_
  refine wpAny_updateSeq hS₁ rfl ?_ 
  have hsb₂ : Heap.SameBut S h₁ (h₁.update S (Obj.mapSeq fun _ => #[.ref p, .ref p])) := Heap.SameBut.update ..
  have hS₂ := Heap.get?_update_self (Obj.mapSeq fun _ => #[Value.ref p, .ref p]) hS₁ rfl
  generalize h₁.update S (Obj.mapSeq fun _ => #[Value.ref p, .ref p]) = h₂ at hsb₂ hS₂
  have k2 : ∀ b o, @Ne Nat b S → h₁.get? b = some o → h₂.get? b = some o := fun b o hb e => (hsb₂.2 b hb).trans e
  have hI₂ : h₂.IsListIter I a 1 := hI₁.at fun o e => k2 _ o (Ne.symm n1') e
  have hl₂ : h₂.IsList a [Value.ref p, .ref q].toArray := hl₁.at fun o e => k2 _ o n5 e
  have kk : ∀ b o, @Ne Nat b I → @Ne Nat b S → s.heap.get? b = some o → h₂.get? b = some o := fun b o h1 h2 e => k2 b o h2 (k1 b o h1 e)
  have hp₂ := kk _ _ n3 n6 hp
  have hq₂ := kk _ _ n4 n7 hq
  rw [hname]
  refine wpAny_pure ⟨plainId_quiet F.plain_max_loop _, codeAny_builtin F.entry_max_loop ?_⟩
  -- the second
  rw [Around.under_plainId F.plain_max_loop _]
  show wpAny _ A.in1 (seqItems? (.ref S) >>= _) _ _ _
  refine wpAny_bind (wpAny_seqItems hS₂ rfl ?_)
  show wpAny _ A.in1 (tryCatch (pyNext (.ref I)) _ >>= _) _ _ _
  refine wpAny_bind (wpAny_tryCatch (wpAny_pyNext_list_item hI₂ hl₂ (x := .ref q) (by simp) fun h₃ hI₃ hs₃ => ?_))
  have k3 : ∀ b o, @Ne Nat b I → h₂.get? b = some o → h₃.get? b = some o := fun b o hb e => (hs₃.2 b hb).trans e
  have hS₃ := k3 _ _ n1' hS₂
  have hl₃ : h₃.IsList a [Value.ref p, .ref q].toArray := hl₂.at fun o e => k3 _ o n2' e
  have hp₃ := k3 _ _ n3 hp₂
  have hq₃ := k3 _ _ n4 hq₂
  have kk₃ : ∀ b o, @Ne Nat b I → @Ne Nat b S → s.heap.get? b = some o → h₃.get? b = some o := fun b o h1 h2 e => k3 b o h1 (kk b o h1 h2 e)
  show wpAny _ A.in1 (tryCatch (holding [.ref q, .ref q] (richCompare .Gt (.ref q) (.ref p) >>= _)) _ >>= _) _ _ _
  refine wpAny_bind (wpAny_tryCatch (wpAny_holding (wpAny_bind (rcL_gt hu hv hq₃ hp₃ hr ?_))))
  refine wpAny_bind (wpAny_holding (wpAny_truthy_bool ?_))
  refine wpAny_bind (wpAny_letGo (wpAny_pure ?_))
  -- the end
  have last : ∀ {v : Value} {h₄ : Heap} {c : Nat}, h₄.get? S = some { cls := .type "list", dict := none, data := .seq #[v, v] c, slots := #[] } → h₄.IsListIter I a 2 → h₄.IsList a [Value.ref p, .ref q].toArray →
      (∀ h', (∀ b o, @Ne Nat b I → @Ne Nat b S → h₄.get? b = some o → h'.get? b = some o) → R (.ok (.ret v)) { s with heap := h' }) →
      codeAny (model prog w) A (.builtin "max.loop" ⟨[.ref I, .none, .ref S], []⟩) R { s with heap := h₄ } := by
    intro v h₄ c hS₄ hI₄ hl₄ hR₄
    refine codeAny_builtin F.entry_max_loop ?_
    rw [Around.under_plainId F.plain_max_loop _]
    show wpAny _ A.in1 (seqItems? (.ref S) >>= _) _ _ _
    refine wpAny_bind (wpAny_seqItems hS₄ rfl ?_)
    show wpAny _ A.in1 (tryCatch (pyNext (.ref I)) _ >>= _) _ _ _
    refine wpAny_bind (wpAny_tryCatch (wpAny_pyNext_list_end hh hI₄ hl₄ (by simp) fun h₅ he₅ => ?_))
    have hS₅ := he₅ _ _ n1' hS₄
    show wpAny _ A.in1 (updateSeq S (fun _ => #[]) >>= _) _ _ _
    refine wpAny_bind ?_
    refine wpAny_updateSeq hS₅ rfl (wpAny_bind (wpAny_letGo (wpAny_pure ?_)))
    exact hR₄ _ fun b o h1 h2 e => (Heap.get?_update_other _ _ (Ne.symm h2)).trans (he₅ b o h1 e)
  cases hb : (ordL ys xs == .gt) with
  | true =>
    rw [hb, if_pos rfl] at hR
    simp only [if_true]
    refine wpAny_bind ?_
    refine wpAny_updateSeq hS₃ rfl (wpAny_bind (wpAny_letGo ?_))
    rw [hname]
    have hsb₄ : Heap.SameBut S h₃ (h₃.update S (Obj.mapSeq fun _ => #[.ref q, .ref q])) := Heap.SameBut.update ..
    have k4 : ∀ b o, @Ne Nat b S → h₃.get? b = some o → (h₃.update S (Obj.mapSeq fun _ => #[.ref q, .ref q])).get? b = some o := fun b o hb e => (hsb₄.2 b hb).trans e
    refine wpAny_pure ⟨plainId_quiet F.plain_max_loop _, last (Heap.get?_update_self _ hS₃ rfl) (hI₃.at fun o e => k4 _ o (Ne.symm n1') e) (hl₃.at fun o e => k4 _ o n5 e) fun h' kh => hR h' fun b o h1 h2 e => kh b o h1 h2 (k4 b o h2 (kk₃ b o h1 h2 e))⟩
  | false =>
    rw [hb, if_neg (by decide)] at hR
    simp only [Bool.false_eq_true, if_false]
    refine wpAny_bind (wpAny_letGo ?_)
    rw [hname]
    refine wpAny_pure ⟨plainId_quiet F.plain_max_loop _, last hS₃ hI₃ hl₃ fun h' kh => hR h' fun b o h1 h2 e => kh b o h1 h2 (kk₃ b o h1 h2 e)⟩
theorem call_max2 {a p q : Addr} {k n1 n2 : Nat} {vs us : List Value} {xs ys : List (Array UInt8)} {Q : Value → Shared → Prop} (hh : A.handled = none) (hr : A.units + 1 < cLine) (hv : BytesAre vs xs) (hu : BytesAre us ys)
    (F₁ : Fr h₀ L s.heap m) (N : News h₀ L s.heap news) (hm : (a, listOf [Value.ref p, .ref q].toArray k) ∈ news) (hp : (p, listOf vs.toArray n1) ∈ news) (hq : (q, listOf us.toArray n2) ∈ news)
    (h : ∀ h', Fr h₀ L h' m → News h₀ L h' news → Q (if (ordL ys xs == .gt) = true then .ref q else .ref p) { s with heap := h' }) :
    wpAny (model prog w) A (call (.builtin "max") [.ref a]) Q E s := by
  have hname : (toString "max" ++ toString ".loop" : String) = "max.loop" := by decide
  refine call_function_tree F.kind_max F.plain_max F.entry_max (F.args_max1 _) ?_
  show wpAny _ A.in1 (Builtin.Builtins.bindParams "max" ["key", "default"] 0 ⟨[], []⟩ >>= _) _ _ s
  refine wpAny_bind (wpAny_of_eq (show Builtin.Builtins.bindParams "max" ["key", "default"] 0 ⟨[], []⟩ = pure [none, none] from rfl) ?_)
  refine wpAny_bind (wpAny_pure ?_)
  refine wpAny_bind (wpAny_pyIter_list (isL N hm) ?_)
  have g1 : (s.heap.push { cls := .type "list_iterator", data := .fields #[.ref a, .int 0 0] }).get? s.heap.objs.size = some _ := Heap.get?_push_size _ rfl
  have u1 : ∀ b o, s.heap.get? b = some o → (s.heap.push { cls := .type "list_iterator", data := .fields #[.ref a, .int 0 0] }).get? b = some o := fun b o e => Heap.get?_push_of_some _ e
  have z1 : (s.heap.push { cls := .type "list_iterator", data := .fields #[.ref a, .int 0 0] }).objs.size = s.heap.objs.size + 1 := Heap.size_push ..
  generalize s.heap.push { cls := .type "list_iterator", data := .fields #[.ref a, .int 0 0] } = h₁ at g1 u1 z1
  refine wpAny_bind (wpAny_newObj_type ?_)
  have g2 : (h₁.push { cls := .type "list", data := .seq ([] : List Value).toArray }).get? h₁.objs.size = some { cls := .type "list", dict := none, data := .seq #[] 0, slots := #[] } := Heap.get?_push_size _ rfl
  have u2 : ∀ b o, h₁.get? b = some o → (h₁.push { cls := .type "list", data := .seq ([] : List Value).toArray }).get? b = some o := fun b o e => Heap.get?_push_of_some _ e
  generalize h₁.push { cls := .type "list", data := .seq ([] : List Value).toArray } = h₂ at g2 u2
  rw [hname]
  have lt : ∀ b o, s.heap.get? b = some o → @LT.lt Nat _ b s.heap.objs.size := fun b o e => Heap.lt_size e
  have la := lt _ _ (N _ hm).1
  have lp := lt _ _ (N _ hp).1
  have lq := lt _ _ (N _ hq).1
  have up : ∀ b o, s.heap.get? b = some o → h₂.get? b = some o := fun b o e => u2 b o (u1 b o e)
  refine wpAny_pure ⟨plainId_quiet F.plain_max_loop _, turn2_gt (s := { s with heap := h₂ }) (I := s.heap.objs.size) (S := h₁.objs.size) hh hr hv hu g2 ⟨_, u2 _ _ g1, rfl, rfl⟩ ((isL N hm).at fun o e => up _ o e) (up _ _ (N _ hp).1) (up _ _ (N _ hq).1) ?_ fun h' kh => ?_⟩
  · dsimp only at la lp lq ⊢
    refine ⟨?_, ?_, ?_, ?_, ?_, ?_, ?_⟩ <;> omega
  · have up' : ∀ b o, s.heap.get? b = some o → h'.get? b = some o := fun b o e => kh b o (Nat.ne_of_lt (lt _ _ e)) (by have := lt _ _ e; omega) (up b o e)
    exact h h' (F₁.keeps up') (N.grown up')
theorem call_min2' {a p q : Addr} {k n1 n2 : Nat} {vs us : List Value} {xs ys : List (Array UInt8)} {Q : Value → Shared → Prop} (hh : A.handled = none) (hr : A.units + 1 < cLine) (hv : BytesAre vs xs) (hu : BytesAre us ys)
    (F₁ : Fr h₀ L s.heap m) (N : News h₀ L s.heap news) (hm : (a, listOf [Value.ref p, .ref q].toArray k) ∈ news) (hp : (p, listOf vs.toArray n1) ∈ news) (hq : (q, listOf us.toArray n2) ∈ news)
    (h : ∀ h' r vr nr xr, (r, listOf vr.toArray nr) ∈ news → BytesAre vr xr → xr = (if (ordL ys xs == .lt) = true then ys else xs) → Fr h₀ L h' m → News h₀ L h' news → Q (.ref r) { s with heap := h' }) :
    wpAny (model prog w) A (call (.builtin "min") [.ref a]) Q E s := by
  refine call_min2 hh hr hv hu F₁ N hm hp hq fun h' F' N' => ?_
  by_cases hb : (ordL ys xs == .lt) = true
  · rw [if_pos hb]
    exact h h' q us n2 ys hq hu (by rw [if_pos hb]) F' N'
  · rw [if_neg hb]
    exact h h' p vs n1 xs hp hv (by rw [if_neg hb]) F' N'
theorem call_max2' {a p q : Addr} {k n1 n2 : Nat} {vs us : List Value} {xs ys : List (Array UInt8)} {Q : Value → Shared → Prop} (hh : A.handled = none) (hr : A.units + 1 < cLine) (hv : BytesAre vs xs) (hu : BytesAre us ys)
    (F₁ : Fr h₀ L s.heap m) (N : News h₀ L s.heap news) (hm : (a, listOf [Value.ref p, .ref q].toArray k) ∈ news) (hp : (p, listOf vs.toArray n1) ∈ news) (hq : (q, listOf us.toArray n2) ∈ news)
    (h : ∀ h' r vr nr xr, (r, listOf vr.toArray nr) ∈ news → BytesAre vr xr → xr = (if (ordL ys xs == .gt) = true then ys else xs) → Fr h₀ L h' m → News h₀ L h' news → Q (.ref r) { s with heap := h' }) :
    wpAny (model prog w) A (call (.builtin "max") [.ref a]) Q E s := by
  refine call_max2 hh hr hv hu F₁ N hm hp hq fun h' F' N' => ?_
  by_cases hb : (ordL ys xs == .gt) = true
  · rw [if_pos hb]
    exact h h' q us n2 ys hq hu (by rw [if_pos hb]) F' N'
  · rw [if_neg hb]
    exact h h' p vs n1 xs hp hv (by rw [if_neg hb]) F' N'
end
end Mine
end
section
open PySem PySem.W PyProof.Rows PySem.Calls
set_option maxRecDepth 100000
namespace Mine
open MeetsSeq MeetsSeq3
section
variable {prog : Program} {w : World} {A : Around} {E : Value → Shared → Prop} {s : Shared} {h₀ : Heap} {L : Addr} {m : Str → Option Value} {news : List (Addr × Obj)}
/-- a part of a list -/
theorem slice_LL {value slice : Expr} {a : Addr} {vs : List Value} {n : Nat} {vl vu : Value} {lo hi : Option Int} {Q : Value → Shared → Prop} (F : Fr h₀ L s.heap m) (N : News h₀ L s.heap news) (hm : (a, listOf vs.toArray n) ∈ news) (pl : IsPart vl lo) (pu : IsPart vu hi) (hz : vs.length ≤ 1000000)
    (h : ∀ D h', Fr h₀ L h' m → News h₀ L h' ((D, listOf (kms_pick vs lo hi).toArray 0) :: news) → (∀ p ∈ news, p.1 < D) → Q (.ref D) { s with heap := h' })
    (hs : subscripted slice false (.ref a) (.ref s.heap.objs.size) = operate [.ref s.heap.objs.size, .ref a] (getItem (.ref a) (.ref s.heap.objs.size)) := by with_unfolding_all rfl)
    (ht : ∀ r, letTemporaryGo value (.ref a) r = pure () := by intro _; with_unfolding_all rfl) :
    wpAny (model prog w) A (subscriptTail value slice (.ref a) (.ref s.heap.objs.size)) Q E { s with heap := s.heap.push { cls := .type "slice", data := .fields #[vl, vu, .none] } } :=
  kms_slice_lit F N (isL N hm) pl pu rfl (by simpa using h) hs ht (by rw [sizeLine_eq, List.size_toArray]; omega)
theorem pick_upto (vs : List Value) (i : Nat) : kms_pick vs none (some (i : Int)) = vs.take i := by
  unfold kms_pick kms_lo kms_hi
  have : ¬ ((i : Int) < 0) := by omega
  simp only [this, if_false, List.drop_zero, Int.toNat_natCast]
  rw [Nat.sub_zero]
  by_cases h : i ≤ vs.length
  · rw [Nat.min_eq_left h]
  · rw [Nat.min_eq_right (by omega), List.take_length, List.take_of_length_le (by omega)]
theorem pick_from (vs : List Value) (i : Nat) : kms_pick vs (some (i : Int)) none = vs.drop i := by
  unfold kms_pick kms_lo kms_hi
  have : ¬ ((i : Int) < 0) := by omega
  simp only [this, if_false, Int.toNat_natCast]
  by_cases h : i ≤ vs.length
  · rw [Nat.min_eq_left h, List.take_of_length_le (by simp)]
  · rw [Nat.min_eq_right (by omega)]
    simp; omega
theorem pick_both (vs : List Value) (i j : Nat) (hj : j ≤ vs.length) : kms_pick vs (some (i : Int)) (some (j : Int)) = (vs.take j).drop i := by
  unfold kms_pick kms_lo kms_hi
  have h1 : ¬ ((i : Int) < 0) := by omega
  have h2 : ¬ ((j : Int) < 0) := by omega
  simp only [h1, h2, if_false, Int.toNat_natCast]
  rw [Nat.min_eq_left hj]
  by_cases h : i ≤ vs.length
  · rw [Nat.min_eq_left h, List.drop_take]
  · rw [Nat.min_eq_right (by omega)]
    have e1 : vs.drop vs.length = [] := by simp
    have e2 : (vs.take j).drop i = [] := by simp; omega
    rw [e1, e2]; simp
theorem getD_at {α : Type} {xs : List α} {d : α} {j : Nat} (h : j < xs.length) : xs.getD j d = xs[j] := by
  rw [List.getD_eq_getElem?_getD, List.getElem?_eq_getElem h]; rfl
/-- two rows of octets, the same -/
theorem all_eqB : ∀ {vs us : List Value} {xs ys : List (Array UInt8)}, BytesAre vs xs → BytesAre us ys → xs.length = ys.length → ((List.range vs.toArray.size).all fun j => (xs.getD j #[]).toList == (ys.getD j #[]).toList) = decide (xs = ys) := by
  intro vs us xs ys hv hu hl
  rw [Bool.eq_iff_iff, decide_eq_true_eq, List.all_eq_true]
  have hs : vs.toArray.size = xs.length := by rw [List.size_toArray, hv.length]
  constructor
  · intro h
    refine List.ext_getElem hl fun i h1 h2 => ?_
    have := h i (List.mem_range.mpr (by rw [hs]; exact h1))
    rw [beq_iff_eq, getD_at h1, getD_at h2] at this
    exact Array.toList_inj.mp this
  · rintro rfl i _
    simp
theorem EqGs {vs us : List Value} {xs ys : List (Array UInt8)} (hv : BytesAre vs xs) (hu : BytesAre us ys) : ∀ j (h1 : j < vs.toArray.size) (h2 : j < us.toArray.size), EqGives vs.toArray[j] us.toArray[j] ((xs.getD j #[]).toList == (ys.getD j #[]).toList) := by
  intro j h1 h2
  have l1 : j < xs.length := by rw [← hv.length]; simpa using h1
  have l2 : j < ys.length := by rw [← hu.length]; simpa using h2
  obtain ⟨t, e1⟩ := hv.get (List.getElem?_eq_getElem l1)
  obtain ⟨u, e2⟩ := hu.get (List.getElem?_eq_getElem l2)
  have f1 : vs.toArray[j] = .bytes xs[j] t := by
    have := List.getElem?_eq_some_iff.mp e1
    simpa using this.2
  have f2 : us.toArray[j] = .bytes ys[j] u := by
    have := List.getElem?_eq_some_iff.mp e2
    simpa using this.2
  rw [f1, f2, getD_at l1, getD_at l2]
  exact EqGives.bytes _ _ _ _
theorem rcL_eq {a b : Addr} {n n2 : Nat} {vs us : List Value} {xs ys : List (Array UInt8)} {Q : Value → Shared → Prop} (hv : BytesAre vs xs) (hu : BytesAre us ys) (hl : s.heap.get? a = some (listOf vs.toArray n)) (hb : s.heap.get? b = some (listOf us.toArray n2))
    (hr : A.units < cLine) (h : Q (.bool (decide (xs = ys))) s) : wpAny (model prog w) A (richCompare .Eq (.ref a) (.ref b)) Q E s := by
  have Ta : s.TypeIs (.ref a) "list" := ⟨_, hl, rfl⟩
  have Tb : s.TypeIs (.ref b) "list" := ⟨_, hb, rfl⟩
  by_cases hlen : xs.length = ys.length
  · refine wpAny_richCompare_same_room (op := .Eq) Ta Tb F.slot_list_eq (call_meets F.slot_list_eq Ta F.entry_list_eq (F.args_list_eq_2 _ _) (list_eq a b vs.toArray us.toArray n n2 (by simp [hv.length, hu.length, hlen]) _ (EqGs hv hu)) ⟨hl, hb, (fun e => nomatch e), ?_⟩) hr
    rw [all_eqB hv hu hlen]; exact h
  · refine wpAny_richCompare_same_room (op := .Eq) Ta Tb F.slot_list_eq (call_meets F.slot_list_eq Ta F.entry_list_eq (F.args_list_eq_2 _ _) (SeqAt.list_eq_lengthsAt a b vs.toArray us.toArray n n2 none none #[] #[] (by simp [hv.length, hu.length, hlen])) ⟨hl, hb, (fun e => nomatch e), ?_⟩) hr
    have : ¬ xs = ys := fun e => hlen (by rw [e])
    rw [decide_eq_false this] at h; exact h
theorem rcL_ne {a b : Addr} {n n2 : Nat} {vs us : List Value} {xs ys : List (Array UInt8)} {Q : Value → Shared → Prop} (hv : BytesAre vs xs) (hu : BytesAre us ys) (hl : s.heap.get? a = some (listOf vs.toArray n)) (hb : s.heap.get? b = some (listOf us.toArray n2))
    (hr : A.units < cLine) (h : Q (.bool (!decide (xs = ys))) s) : wpAny (model prog w) A (richCompare .NotEq (.ref a) (.ref b)) Q E s := by
  have Ta : s.TypeIs (.ref a) "list" := ⟨_, hl, rfl⟩
  have Tb : s.TypeIs (.ref b) "list" := ⟨_, hb, rfl⟩
  by_cases hlen : xs.length = ys.length
  · refine wpAny_richCompare_same_room (op := .NotEq) Ta Tb F.slot_list_ne (call_meets F.slot_list_ne Ta F.entry_list_ne (F.args_list_ne_2 _ _) (SeqAt.list_neAt a b vs.toArray us.toArray n n2 none none #[] #[] (by simp [hv.length, hu.length, hlen]) _) ⟨hl, hb, (fun j h1 h2 => (EqGs hv hu j h1 h2).at _ _), (fun e => nomatch e), ?_⟩) hr
    rw [all_eqB hv hu hlen]; exact h
  · refine wpAny_richCompare_same_room (op := .NotEq) Ta Tb F.slot_list_ne (call_meets F.slot_list_ne Ta F.entry_list_ne (F.args_list_ne_2 _ _) (SeqAt.list_ne_lengthsAt a b vs.toArray us.toArray n n2 none none #[] #[] (by simp [hv.length, hu.length, hlen])) ⟨hl, hb, (fun e => nomatch e), ?_⟩) hr
    have : ¬ xs = ys := fun e => hlen (by rw [e])
    rw [decide_eq_false this] at h; exact h
theorem eq_BL {a b : Addr} {n n2 : Nat} {vs us : List Value} {xs ys : List (Array UInt8)} {Q : Value → Shared → Prop} (hv : BytesAre vs xs) (hu : BytesAre us ys) (N : News h₀ L s.heap news) (ha : (a, listOf vs.toArray n) ∈ news) (hb : (b, listOf us.toArray n2) ∈ news)
    (hr : A.units < cLine) (h : Q (.bool (decide (xs = ys))) s) : wpAny (model prog w) A (compareOp .Eq (.ref a) (.ref b)) Q E s := rcL_eq hv hu (N _ ha).1 (N _ hb).1 hr h
theorem ne_BL {a b : Addr} {n n2 : Nat} {vs us : List Value} {xs ys : List (Array UInt8)} {Q : Value → Shared → Prop} (hv : BytesAre vs xs) (hu : BytesAre us ys) (N : News h₀ L s.heap news) (ha : (a, listOf vs.toArray n) ∈ news) (hb : (b, listOf us.toArray n2) ∈ news)
    (hr : A.units < cLine) (h : Q (.bool (!decide (xs = ys))) s) : wpAny (model prog w) A (compareOp .NotEq (.ref a) (.ref b)) Q E s := rcL_ne hv hu (N _ ha).1 (N _ hb).1 hr h
end
end Mine
end
section
open PySem PySem.W PyProof.Rows PySem.Calls
set_option maxRecDepth 100000
namespace Mine
/-- every value is an int -/
theorem ints_made : ∀ {vs : List Value}, (∀ v ∈ vs, ∃ n t, v = Value.int n t) → ∃ ns, IntsAre vs ns
  | [], _ => ⟨_, .nil⟩
  | v :: vs, h => by
    obtain ⟨n, t, rfl⟩ := h v List.mem_cons_self
    obtain ⟨ns, hn⟩ := ints_made fun v hv => h v (List.mem_cons_of_mem _ hv)
    exact ⟨_, .cons n t hn⟩
theorem ints_each : ∀ {vs : List Value} {ns : List Int}, IntsAre vs ns → ∀ v ∈ vs, ∃ n t, v = Value.int n t
  | _, _, .cons n t h, v, hv => by
    rcases List.mem_cons.mp hv with rfl | hv
    · exact ⟨n, t, rfl⟩
    · exact ints_each h v hv
theorem picked_mem {items : Array Value} {lo hi st : Option Int} {v : Value} (h : v ∈ (slicePick items lo hi st).toList) : v ∈ items.toList := by
  unfold slicePick at h
  simp only [List.mem_filterMap] at h
  obtain ⟨j, _, hj⟩ := h
  obtain ⟨hj1, rfl⟩ := Array.getElem?_eq_some_iff.mp hj
  simp
section
variable {prog : Program} {w : World} {A : Around} {E : Value → Shared → Prop} {s : Shared} {h₀ : Heap} {L : Addr} {m : Str → Option Value} {news : List (Addr × Obj)} {value slice : Expr} {Q : Value → Shared → Prop}
/-- a part of a row of ints, with a step -/
theorem slice3_ints {l : Addr} {vs : List Value} {xs : List Int} {vl vu vk : Value} {lo hi st : Option Int} {ops : List Value} (F : Fr h₀ L s.heap m) (N : News h₀ L s.heap news) (hl : h₀.IsList l vs.toArray) (hI : IntsAre vs xs) (pl : IsPart vl lo) (pu : IsPart vu hi) (pk : IsPart vk st) (h0 : st ≠ some 0)
    (hz : xs.length ≤ 63)
    (h : ∀ D h' ws ns, Fr h₀ L h' m → News h₀ L h' ((D, listOf ws.toArray 0) :: news) → (∀ p ∈ news, p.1 < D) → IntsAre ws ns → Q (.ref D) { s with heap := h' })
    (hs : subscripted slice false (.ref l) (.ref s.heap.objs.size) = operate ops (getItem (.ref l) (.ref s.heap.objs.size)) := by with_unfolding_all rfl) (ht : ∀ r, letTemporaryGo value (.ref l) r = pure () := by intro _; with_unfolding_all rfl) :
    wpAny (model prog w) A (subscriptTail value slice (.ref l) (.ref s.heap.objs.size)) Q E { s with heap := s.heap.push { cls := .type "slice", data := .fields #[vl, vu, vk] } } := by
  obtain ⟨ns, hn⟩ := ints_made (vs := (slicePick vs.toArray lo hi st).toList) fun v hv => ints_each hI v (by simpa using picked_mem hv)
  exact kmk_slice3_lit F N (F.lst hl) pl pu pk h0 rfl (fun D h' F' N' l1 => h D h' _ ns F' N' l1 hn) hs ht (by rw [List.size_toArray, hI.length, sizeLine_eq]; omega)
/-- an item of a row, of which all that is asked is what all its items have -/
theorem item_any {a : Addr} {vs : List Value} {n : Nat} {x : Int} {u : Tok} {Pv : Value → Prop} (N : News h₀ L s.heap news) (hm : (a, listOf vs.toArray n) ∈ news) (h0 : 0 ≤ x) (h1 : x < vs.length) (hz : vs.length ≤ 1000000) (hP : ∀ v ∈ vs, Pv v) (h : ∀ v, Pv v → Q v s)
    (hs : subscripted slice false (.ref a) (.int x u) = operate [.ref a, .int x u] (getItem (.ref a) (.int x u)) := by with_unfolding_all rfl) :
    wpAny (model prog w) A (subscriptTail value slice (.ref a) (.int x u)) Q E s := by
  have hx : x.toNat < vs.length := by omega
  exact item_L N hm h0 (by have : (1000000 : Int) < 2 ^ 63 := by decide
                           omega) (List.getElem?_eq_getElem hx) (h _ (hP _ (List.getElem_mem hx))) hs
theorem bytes_nth : ∀ {vs : List Value} {bs : List (Array UInt8)} (i : Nat), BytesAre vs bs → i < bs.length → ∃ t, vs[i]? = some (.bytes (bs.getD i #[]) t)
  | _, _, 0, .cons (t := t) h, _ => ⟨t, rfl⟩
  | _, _, i + 1, .cons h, hi => by simpa using bytes_nth i h (by simpa using hi)
/-- an item of a row of octets -/
theorem item_bytes {a : Addr} {vs : List Value} {bs : List (Array UInt8)} {n : Nat} {x : Int} {u : Tok} (N : News h₀ L s.heap news) (hm : (a, listOf vs.toArray n) ∈ news) (hB : BytesAre vs bs) (h0 : 0 ≤ x) (h1 : x < bs.length) (hz : bs.length ≤ 1000000) (h : ∀ t, Q (.bytes (bs.getD x.toNat #[]) t) s)
    (hs : subscripted slice false (.ref a) (.int x u) = operate [.ref a, .int x u] (getItem (.ref a) (.int x u)) := by with_unfolding_all rfl) :
    wpAny (model prog w) A (subscriptTail value slice (.ref a) (.int x u)) Q E s := by
  obtain ⟨t, ht⟩ := bytes_nth x.toNat hB (by omega)
  exact item_L N hm h0 (by have : (1000000 : Int) < 2 ^ 63 := by decide
                           omega) ht (h t) hs
/-- a row backwards -/
theorem slice_back {a : Addr} {vs : List Value} {n : Nat} {vk : Value} {ops : List Value} (F : Fr h₀ L s.heap m) (N : News h₀ L s.heap news) (hm : (a, listOf vs.toArray n) ∈ news) (pk : IsPart vk (some (-1))) (hz : vs.length ≤ 1000000)
    (h : ∀ D h', Fr h₀ L h' m → News h₀ L h' ((D, listOf vs.reverse.toArray 0) :: news) → (∀ p ∈ news, p.1 < D) → Q (.ref D) { s with heap := h' })
    (hs : subscripted slice false (.ref a) (.ref s.heap.objs.size) = operate ops (getItem (.ref a) (.ref s.heap.objs.size)) := by with_unfolding_all rfl) (ht : ∀ r, letTemporaryGo value (.ref a) r = pure () := by intro _; with_unfolding_all rfl) :
    wpAny (model prog w) A (subscriptTail value slice (.ref a) (.ref s.heap.objs.size)) Q E { s with heap := s.heap.push { cls := .type "slice", data := .fields #[.none, .none, vk] } } :=
  krv_lit F N (isL N hm) pk rfl h hs ht (by rw [List.size_toArray, sizeLine_eq]; omega)
end
end Mine
end
section
open PySem PySem.W PyProof.Rows PySem.Calls PySem.Spec
set_option maxRecDepth 100000
namespace Mine
theorem clean_caller : Clean ⟨.builtin "claim.caller" {}, none, none, [], none⟩ := ⟨by decide +kernel, fun x hx => nomatch hx⟩
theorem thread_endsP {prog : Program} {w : World} {t : Sem Fin} {s : Shared} {R : Result → Shared → Prop} (hreg : s.asleep)
    (h : wpP Clean (model prog w) callerA t (fun fin s' => ∃ f, fin = .done f ∧ (R (.ok f) s' ∧ leftWithCleanup s'.gens = false)) (fun e s' => R (.error e) s' ∧ leftWithCleanup s'.gens = false) s) :
    ∃ n r s' s'', runN (denote table) prog w n s ⟨t, .builtin "claim.caller" {}, default, []⟩ = .halted (outcomeOf r) s' ∧
      schedN (denote table) prog w n (.single s ⟨t, .builtin "claim.caller" {}, default, []⟩) = .halted (outcomeOf r) s' ∧ s'.forget = s''.forget ∧ R r s'' := by
  have hh : Sem.wp (model prog w) ⟨.builtin "claim.caller" {}, none, none, [], none⟩ t (Sem.finPost (model prog w) ⟨.builtin "claim.caller" {}, none, none, [], none⟩ (fun r s' => R r s' ∧ leftWithCleanup s'.gens = false)) (fun e _ s' => R (.error e) s' ∧ leftWithCleanup s'.gens = false) default s := by
    refine Sem.wp_mono (model prog w) _ t (fun fin p' s' h' => ?_) (fun _ _ _ h' => h') default s (h _ default caller_in clean_caller)
    obtain ⟨f, rfl, hf⟩ := h'
    exact hf
  obtain ⟨n, r, s₁, s₂, hs, hn, hfo, hR⟩ := wp_halts_full (M := model prog w) (R := R) hreg hh
  exact ⟨n, r, s₂, s₁, hn, hs, hfo, hR⟩
theorem callFromP {c : ClaimW} {tree : List Value → Sem Fin} {w : World} {s : Shared} {free : Addr → Prop} {gens : Prop} {kept : Heap → Prop} (hz : s.asleep) (hgens : s.gens = #[])
    (hspec : ∀ args, c.pre args = true → WData.layableAll args = true →
      ∀ ord : List DictEntry → List DictEntry, (∀ l, (ord l).Perm l) →
      ∃ vs s₁, layAllW c.records (classAt s.heap) w.params ord args s = some (vs, s₁) ∧
        wpP Clean (model c.prog w) callerA (tree vs) (fun fin s' => ∃ f, fin = .done f ∧ (c.Ends s args vs s₁ (.ok f) s' ∧ s'.os = s.os ∧ AllBare s'.gens ∧ kept s'.heap))
          (fun e s' => c.Ends s args vs s₁ (.error e) s' ∧ s'.os = s.os ∧ AllBare s'.gens ∧ kept s'.heap) s₁) :
    c.CallFrom (fun vs => ⟨tree vs, .builtin "claim.caller" {}, default, []⟩) w free gens kept s := by
  intro args hpre hlay ord hord
  obtain ⟨vs, s₁, hlaid, hcode⟩ := hspec args hpre hlay ord hord
  have hal := layAllW_rest _ _ _ hlaid
  obtain ⟨k, r, s', s'', hrun, hsched, hfo, hcase, hos, hkp⟩ := thread_endsP (prog := c.prog) (w := w) (t := tree vs) (s := s₁)
    (R := fun r s' => c.Ends s args vs s₁ r s' ∧ s'.os = s.os ∧ kept s'.heap)
    (Shared.asleep_of_life hal.2.2.2 hz)
    (wpP_mono hcode (by
      rintro fin s' ⟨f, e, h1, h2, h3, h4⟩
      exact ⟨f, e, ⟨h1, h2, h4⟩, leftWithCleanup_false_of_bare h3⟩) (by
      rintro e s' ⟨h1, h2, h3, h4⟩
      exact ⟨⟨h1, h2, h4⟩, leftWithCleanup_false_of_bare h3⟩))
  obtain ⟨eh, _, _, eo, _⟩ := Shared.forget_eq hfo
  have hcase := hcase.congr eh
  have hkp : kept s'.heap := by first | exact eh ▸ hkp | (rw [eh] at hkp; exact hkp) | (rw [← eh] at hkp; exact hkp)
  rw [← eo] at hos
  have hlife : s'.heap.life = s.heap.life := (runN_life _ _ _ hrun).trans hal.2.2.2
  refine ⟨vs, s₁, hlaid, k, _, s', hsched, ?_, (fun _ i x hx => by rw [hgens] at hx; simp at hx), hkp, by rw [hlife], Shared.rest_eq hos⟩
  rcases hcase with ⟨v, rfl, d1, d2, d3, d4, d5⟩ | ⟨e, ob, cls, rfl, d1, d2, d3, d4, d5⟩
  · exact .inl ⟨v, rfl, d1, d2, d3, fun b o y _ => d4 b o y, d5⟩
  · exact .inr ⟨e, ob, cls, rfl, d1, d2, d3, d4, fun b o y _ => d5 b o y⟩

theorem open_anyP {r : RowW} {run : Value → List Value → Sem Value} {tree : List Value → Sem Fin} {q : Program} {loose defs kps : List Str} {writes : Bool} {Xt : Shared → Bool} {XP : (Str → Option Value) → Heap → Prop} {α : Type} {Yf : Shared → α} {Ya : World → α} {YP : World → Heap → Prop} {N : Nat}
    (left : LeftO r.prog q loose Xt Yf Ya N) (hY : ∀ w s, Yf s = Ya w → YP w s.heap) (hYk : ∀ w h h', YP w h → (∀ b o, h.get? b = some o → h'.get? b = some o) → YP w h') (hX : ∀ s, Xt s = true → XP (s.heap.nsMap mainGlobals) s.heap) (hXk : ∀ mg h h', XP mg h → (∀ b o, h.get? b = some o → h'.get? b = some o) → XP mg h')
    (hRf : ∀ s, Xt s = true → RecFacts r.records s.heap) (hwr : (!writes || r.records.isEmpty) = true) (ok : (chainsOk q && opensWell r.prog && (frees r && r.within.isEmpty)) = true) (hb : r.prog.bare) (hw : r.promised)
    (ht : ∀ vs (w : World) (s : Shared) mg f (Q : Fin → Shared → Prop) (E : Value → Shared → Prop), s.heap.Ns mainGlobals mg → mg r.name = some f → wpP Clean (model r.prog w) callerA (run f vs) (fun v s' => Q (.done (.ret v)) s') E s → wpP Clean (model r.prog w) callerA (tree vs) Q E s)
    (pin : ∀ w s, s.heap.isNs mainGlobals = true → Ground q loose [] XP w s (s.heap.nsMap mainGlobals) (s.heap.nsMap builtinsNs) s.heap → ∀ n ∈ defs, isTheDefsW r.prog s.heap n)
    (call : ∀ (w : World) (s₀ s₁ : Shared) (mg mb : Str → Option Value), Ground q loose r.records XP w s₀ mg mb s₁.heap → YP w s₁.heap → ∀ (args : List WData) (vs : List Value) (as : List Addr),
      r.claim.pre args = true → WData.layableAll args = true → Laid r.records w s₀ s₁ args vs as → sysModules < s₀.heap.objs.size → ∃ f, mg r.name = some f ∧
        wpP Clean (model r.prog w) callerA (run f vs) (fun v s' => GoodWG r.claim (classAt s₀.heap) (ExcName.means s₀.heap) args s₁ (.ok (.ret v)) s')
          (fun e s' => GoodWG r.claim (classAt s₀.heap) (ExcName.means s₀.heap) args s₁ (.error e) s') s₁) : r.claim.HoldsOpenBy (fun vs => ⟨tree vs, .builtin "claim.caller" {}, default, []⟩) defs kps writes := by
  obtain ⟨ok, k5⟩ := Bool.and_eq_true_iff.mp ok
  obtain ⟨hch, o1⟩ := Bool.and_eq_true_iff.mp ok
  obtain ⟨k5, k6⟩ := Bool.and_eq_true_iff.mp k5
  obtain ⟨hsame, hu, ha, hap, hm⟩ := frees_parts k5
  refine ⟨⟨hb, o1, by show r.makers.map _ = []; rw [hm]; rfl⟩, hw.witness, fun w => ⟨(left.behind hX hch w).1, fun s' hs' => ?_⟩⟩
  obtain ⟨s₀, hf, hg0, s, hT, hz, hgens, hg, G00, y⟩ := (left.behind (XP := fun mg h => XP mg h ∧ RecFacts r.records h) (fun s hs => ⟨hX s hs, hRf s hs⟩) hch w).2 s' hs'
  have G0 : Ground q loose [] XP w s (s.heap.nsMap mainGlobals) (s.heap.nsMap builtinsNs) s.heap := ⟨G00.T, G00.B, G00.D, G00.TE, G00.TD, G00.W, G00.X.1, G00.cls, G00.has, G00.apart, G00.once, G00.K⟩
  have RF := G00.X.2
  have hT' := hT
  refine ⟨s₀, hf, hg0, s, hT, pin w s hg G0, RF.1, RF.2.1, ?_⟩
  have hgens : s.gens = #[] := Array.eq_empty_of_size_eq_zero (beq_iff_eq.mp hgens)
  have G : Ground q loose r.records XP w s _ _ s.heap := RF.ground G0
  refine callFromP (c := r.claim) hz hgens fun args hpre hlay ord hord => ?_
  obtain ⟨⟨vs, s₁⟩, hlaid⟩ := Option.isSome_iff_exists.mp (layAllW_isSome (P := w.params) (ord := ord) G.has args r.args s (pre_splitW hpre).1)
  have keeps := layAllW_keeps _ _ _ hlaid
  have hal := layAllW_rest _ _ _ hlaid
  obtain ⟨as, hrd, hin, hold⟩ := reads_layAllW hord _ _ _ hlaid hlay s₁.heap (fun _ _ e => e)
  have L : Laid r.records w s s₁ args vs as := ⟨⟨ord, hord, hlaid⟩, hrd, hin, hold, keeps, hal.1.trans hgens, hal.2.2.1⟩
  have G₁ := G.keeps hXk keeps
  obtain ⟨f, hf, h⟩ := call w s s₁ _ _ G₁ (hYk _ _ _ (hY w s y) keeps) args vs as hpre hlay L G.low
  have hi := ident_freeW hu ha hap
  have hwi : r.claim.within = [] := List.isEmpty_iff.mp k6
  exact ⟨vs, s₁, hlaid, ht vs w s₁ _ f _ _ G₁.T.g hf (wpP_mono h (fun v s' g => ⟨_, rfl, have z := g.laid (c := r.claim) hsame hwi hi L; ⟨z.1, z.2.1, z.2.2, fun q => ⟨namesKept_of hT' hg kps keeps g.2.1.old, noTable hwr q⟩⟩⟩) fun e s' g => have z := g.laid (c := r.claim) hsame hwi hi L; ⟨z.1, z.2.1, z.2.2, fun q => ⟨namesKept_of hT' hg kps keeps g.2.1.old, noTable hwr q⟩⟩)⟩

abbrev WalkP (q : Program) (loose : List Str) (XP : (Str → Option Value) → Heap → Prop) (YP : World → Heap → Prop) (r : RowW) (d : DefRec) (kwd : List (Str × Expr)) (run : Value → List Value → Sem Value) : Prop :=
  ∀ (w : World) (s₀ s₁ : Shared) (mg mb : Str → Option Value), Ground q loose r.records XP w s₀ mg mb s₁.heap → YP w s₁.heap → ∀ (a : Addr) (o : Obj) (pm cd doc dV kV : Value), s₁.heap.get? a = some o →
    o.data = .func { docDef d.name d.params d.body d.scope pm cd doc with defaults := dV, kwdefaults := kV } → s₁.heap.CodeRec cd d.name → Dflts mg s₁.heap d.params kwd dV kV → mg d.name = some (.ref a) → s₁.gens = #[] →
    ∀ (args : List WData) (vals : List Value) (as : List Addr), r.claim.pre args = true → WData.layableAll args = true → ReadsAllW r.records (classAt s₀.heap) s₁.heap vals args as → WellAll w.params s₁.heap vals args → (∀ a ∈ as, (a == sysModules) = false) →
      wpP Clean (model r.prog w) callerA (run (.ref a) vals) (fun v s' => GoodWG r.claim (classAt s₀.heap) (ExcName.means s₀.heap) args s₁ (.ok (.ret v)) s')
        (fun e s' => GoodWG r.claim (classAt s₀.heap) (ExcName.means s₀.heap) args s₁ (.error e) s') s₁

theorem holds_openP {r : OpenRow} {q : Program} {loose : List Str} {Xt : Shared → Bool} {XP : (Str → Option Value) → Heap → Prop} {α : Type} {Yf : Shared → α} {Ya : World → α} {YP : World → Heap → Prop} {d : DefRec} {kwd : List (Str × Expr)} {N : Nat}
    (left : LeftO r.prog q loose Xt Yf Ya N) (hY : ∀ w s, Yf s = Ya w → YP w s.heap) (hYk : ∀ w h h', YP w h → (∀ b o, h.get? b = some o → h'.get? b = some o) → YP w h')
    (hX : ∀ s, Xt s = true → XP (s.heap.nsMap mainGlobals) s.heap) (hXk : ∀ mg h h', XP mg h → (∀ b o, h.get? b = some o → h'.get? b = some o) → XP mg h')
    (hdef : defOf q r.name = some (d, kwd)) (hp : r.prog.theDef r.name = some (d.params, d.body, d.scope)) (hk : kwWritten? d.params.kwonlyargs d.params.kw_defaults = some kwd) (hRf : ∀ s, Xt s = true → RecFacts r.records s.heap) (hwr : (!r.writes || r.records.isEmpty) = true)
    (k1 : r.wellSaid = true) (ok : (chainsOk q && opensWell r.prog && (frees r.toRowW && r.within.isEmpty)) = true) (hb : r.prog.bare) (hw : r.toRowW.promised)
    (call : WalkP q loose XP YP r.toRowW d kwd fun f vs => PySem.call f vs) : r.Holds := by
  refine ⟨k1, hw, open_anyP (r := r.toRowW) (run := fun f vs => PySem.call f vs) (tree := fun vs => do match ← nsGet mainNs r.name with
      | some f => do ret (← PySem.call f vs)
      | none => unsupported "claim.caller:no-such-global") left hY hYk hX hXk hRf hwr ok hb hw
    (fun vs w s mg f Q E hg hf h => wpP_bindA (wpAny_nsGet hg (by rw [hf]; exact wpP_bind (wpP_mono h (fun _ _ x => wpP_pure x) fun _ _ x => x))))
    (fun w s hg G n hn => ?_) fun w s₀ s₁ mg mb G Y args vs as hpre hlay L low => ?_⟩
  · obtain rfl : n = r.name := by split at hn <;> simp_all
    exact pinned_of_view hg G hdef hp hk
  · obtain ⟨a, o, pm, cd, doc, dV, kV, h1, h2, h3, h4, h5⟩ := G.fn hdef
    exact ⟨.ref a, h1, call w s₀ s₁ mg mb G Y a o pm cd doc dV kV h2 h3 h4 h5 (defOf_name hdef ▸ h1) L.gens args vs as hpre hlay L.reads L.well (L.low low)⟩

end Mine
end
section
open PySem PySem.W PyProof.Rows PySem.Calls PySem.Spec PySem.Challenge
set_option maxRecDepth 100000
namespace Mine
theorem lawLooks (w : World) (os : OsState) : (kHook Mine.lawK Mine.lawAs Mine.lawAs_eq).obs { heap := Mine.hd.heap_1_184 w.params, toks := 394, os := os } = (kHook Mine.lawK Mine.lawAs Mine.lawAs_eq).val w := by kernel_rfl
noncomputable def LawWalk : Prop := WalkP Mine.hd.view_1_2 [] (XL Mine.hd.view_1_2 []) (kHook Mine.lawK Mine.lawAs Mine.lawAs_eq).says rw_pd0128_01.row.toRowW lawRec.1.1 lawRec.1.2 (fun f vs => PySem.call f vs)
set_option maxHeartbeats 1000000 in
theorem holdsP (call : LawWalk) : rw_pd0128_01.Holds := by
  refine holds_law ?a fun said => ?b
  case a => kernel_rfl
  case b =>
    unfold LawWalk at call
    refine holds_openP (Xt := fun s => xlAt Mine.hd.view_1_2 [] s && recOk rw_pd0128_01.row.records s) (N := 2210) (call := call) (left := ?left) (hY := Hook.of _) (hYk := Hook.keeps _) (hX := ?hX) (hXk := XL.keeps) (hdef := lawRec.2) (hp := ?k2) (hk := ?k3) (hRf := ?k4) (hwr := ?k5) (k1 := said) (ok := ?k6) (hb := ⟨rfl, rfl, rfl, rfl, rfl, Mine.hd._proof_1_5⟩) (hw := ⟨[WData.list []], ?k7, ?k8⟩)
    case hX => exact fun s e => xl_of s (Bool.and_eq_true_iff.mp e).left
    case k2 => kernel_rfl
    case k3 => kernel_rfl
    case k4 => exact fun s e => recFacts_of (Bool.and_eq_true_iff.mp e).right
    case k5 => kernel_rfl
    case k6 => kernel_rfl
    case k7 => kernel_rfl
    case k8 => kernel_rfl
    case left =>
      refine LeftO.of_pieces (boot_open Mine.hd._proof_1_6 (of_decide_eq_true (id (Eq.refl true))) Mine.hd._proof_1_7) Mine.hd._proof_1_189 Mine.hd._proof_1_187 (of_decide_eq_true (id (Eq.refl true))) fun w => funext fun os => ?_
      exact Prod.ext (congrArg (·.1) (Mine.hd._proof_1_220 w os)) (Prod.ext (congrArg (·.2.1) (Mine.hd._proof_1_220 w os)) (lawLooks w os))
end Mine
end
section
open PySem PySem.W PyProof.Rows PySem.Calls
set_option maxRecDepth 100000
namespace Mine
section
variable {P : Ctx → Prop} {prog : Program} {w : World} {A : Around} {E : Value → Shared → Prop} {R : Result → Shared → Prop} {s : Shared} {elt : Expr} {gens : List Comprehension} {scope : Scope} {pos : Pos}
/-- a turn of one clause of a list comprehension -/
abbrev ClauseTurn (p : Pos) (target : Expr) (ifs : List Expr) (it : Value) (env : Env) (emit : Sem Unit) (c : Code) : Sem Fin := do
  standAt p
  match ← pyNext it with
  | none => pure (.done .next)
  | some v =>
    letOwnedTupleGo target it v
    assign target env v
    let ok ← TestsOf ifs env
    if ok then emit
    again c
theorem compLoopG (K : Kept P) {target : Expr} {ifs : List Expr} {p : Pos} {depth : Nat} {acc : Value} {emit : Sem Unit} {env : Env} {I : Addr} {fp wr : List Addr} {n : Nat} {Pv : Nat → Value → Prop} {St : Nat → Heap → Prop}
    (hf : compTurn (.ListComp elt gens scope pos) depth (.ref I) acc env = ClauseTurn p target ifs (.ref I) env emit (.compLoop (.ListComp elt gens scope pos) depth (.ref I) acc env))
    (W : Walks prog w A I fp wr n Pv St) (J : Nat → Shared → Prop) (hJ : ∀ i s, J i s → St i s.heap)
    (turn : ∀ i s v h' tk, i < n → J i s → Pv i v → St (i + 1) h' → (∀ b o, b ∉ wr → s.heap.get? b = some o → h'.get? b = some o) →
      wpAny (model prog w) A (letOwnedTupleGo target (.ref I) v) (fun _ s₁ => wpAny (model prog w) A (assign target env v) (fun _ s₂ => wpP P (model prog w) A (TestsOf ifs env) (fun ok s₃ => if ok = true then
          wpP P (model prog w) A emit (fun _ s₅ => J (i + 1) s₅) (fun _ _ => False) s₃
        else J (i + 1) s₃) (fun _ _ => False) s₂) (fun _ _ => False) s₁) (fun _ _ => False) { s with heap := h', toks := tk })
    (done : ∀ s h' tk, J n s → (∀ b o, b ∉ wr → s.heap.get? b = some o → h'.get? b = some o) → R (.ok .next) { s with heap := h', toks := tk })
    (h0 : J 0 s) :
    codeP P (model prog w) A (.compLoop (.ListComp elt gens scope pos) depth (.ref I) acc env) R s := by
  refine codeP_loop K rfl rfl (fun k s' => ∃ i, J i s' ∧ i ≤ n ∧ k = n + 1 - i) ?_ (n + 1) ⟨0, h0, Nat.zero_le _, rfl⟩
  rintro k s' ⟨i, hi, hin, rfl⟩
  rw [Around.under_of_weight (A := A) (c := .compLoop (.ListComp elt gens scope pos) depth (.ref I) acc env) rfl]
  show wpP P _ A ((compTurn (.ListComp elt gens scope pos) depth (.ref I) acc env).onRaise (fun x => do noteFrame x env; theTreesLotGoes x)) _ _ s'
  refine wpP_onRaise ?_
  rw [hf]
  refine wpP_bind (wpP_standAt (wpP_bind ?_))
  by_cases hlt : i < n
  · refine .of_any (W.item i s' _ _ hlt (hJ _ _ hi) fun v h' tk hv st hk => ?_)
    dsimp only
    refine wpP_bindA (wpAny_mono (turn i s' v h' tk hlt hi hv st hk) (fun _ s₁ h₁ => wpP_bindA (wpAny_mono h₁ (fun _ s₂ h₂ => wpP_bind (wpP_mono h₂ (fun ok s₃ h₃ => ?_) fun _ _ x => x.elim)) fun _ _ x => x.elim)) fun _ _ x => x.elim)
    cases ok with
    | false => exact wpP_pure (.inl ⟨rfl, _, by omega, i + 1, h₃, hlt, rfl⟩)
    | true => exact wpP_bind (wpP_mono h₃ (fun _ s₅ h₅ => wpP_pure (.inl ⟨rfl, _, by omega, i + 1, h₅, hlt, rfl⟩)) fun _ _ x => x.elim)
  · obtain rfl : i = n := by omega
    refine .of_any (W.done s' _ _ (hJ _ _ hi) fun h' tk hk => ?_)
    exact wpP_pure (done s' h' tk hi hk)
variable {h₀ : Heap} {L : Addr} {m : Str → Option Value}
/-- what a turn of a clause leaves: the walker's own thing as it was -/
noncomputable def LEnd (h₀ : Heap) (L : Addr) (m : Str → Option Value) (s : Shared) (I : Addr) (oI : Obj) (C D : Addr) (J : (Str → Option Value) → List Value → List (Addr × Obj) → Prop) (s' : Shared) : Prop :=
  ∃ h' tk ys m' nw, s' = { s with heap := h', toks := tk } ∧ Fr h₀ L h' m ∧ h'.Ns C m' ∧ News h₀ L h' ((I, oI) :: (D, lstN ys) :: nw) ∧ Off3 I C D nw ∧ J m' ys nw
theorem loop_G (K : Kept P) {target : Expr} {ifs : List Expr} {p : Pos} {depth : Nat} {emit : Sem Unit} {env : Env} {I C D : Addr} {keep : List (Addr × Obj)} {n : Nat} {Pv : Nat → Value → Prop} {St : Nat → Heap → Prop}
    (hf : compTurn (.ListComp elt gens scope pos) depth (.ref I) (.ref D) env = ClauseTurn p target ifs (.ref I) env emit (.compLoop (.ListComp elt gens scope pos) depth (.ref I) (.ref D) env))
    (W : Walks prog w A I (I :: keep.map (·.1)) [I] n Pv St) (hIo : ∀ i h, St i h → ∃ o, h.get? I = some o)
    (hIC : I ≠ C) (hID : I ≠ D) (hIL : L ≠ I) (hI₀ : h₀.get? I = none)
    (J : Nat → (Str → Option Value) → List Value → List (Addr × Obj) → Prop) (hkeep : ∀ i m' ys nw, J i m' ys nw → ∀ p ∈ keep, p ∈ nw)
    (turn : ∀ i v m' ys nw h₁ tk₁ oI, i < n → Pv i v → St (i + 1) h₁ → J i m' ys nw → Off3 I C D nw → Fr h₀ L h₁ m → h₁.Ns C m' → News h₀ L h₁ ((I, oI) :: (D, lstN ys) :: nw) →
      wpAny (model prog w) A (letOwnedTupleGo target (.ref I) v) (fun _ s₁ => wpAny (model prog w) A (assign target env v) (fun _ s₂ => wpP P (model prog w) A (TestsOf ifs env) (fun ok s₃ => if ok = true then
          wpP P (model prog w) A emit (fun _ => LEnd h₀ L m s I oI C D (J (i + 1))) (fun _ _ => False) s₃
        else LEnd h₀ L m s I oI C D (J (i + 1)) s₃) (fun _ _ => False) s₂) (fun _ _ => False) s₁) (fun _ _ => False) { s with heap := h₁, toks := tk₁ })
    (done : ∀ h tk m' ys nw, Fr h₀ L h m → h.Ns C m' → News h₀ L h ((D, lstN ys) :: nw) → Off3 I C D nw → J n m' ys nw → R (.ok .next) { s with heap := h, toks := tk })
    {m' : Str → Option Value} {ys : List Value} {nw : List (Addr × Obj)} (hst : St 0 s.heap) (F : Fr h₀ L s.heap m) (hn : s.heap.Ns C m') (N : News h₀ L s.heap ((D, lstN ys) :: nw)) (off : Off3 I C D nw) (h0 : J 0 m' ys nw) :
    codeP P (model prog w) A (.compLoop (.ListComp elt gens scope pos) depth (.ref I) (.ref D) env) R s := by
  have away : ∀ {ys nw}, Off3 I C D nw → ∀ q ∈ (D, lstN ys) :: nw, q.1 ≠ I := fun {ys nw} o q hq => by
    rcases List.mem_cons.mp hq with rfl | hq
    · exact Ne.symm hID
    · exact (o q hq).1
  refine compLoopG K hf W (fun i s' => ∃ h' tk ys m' nw, s' = { s with heap := h', toks := tk } ∧ St i h' ∧ Fr h₀ L h' m ∧ h'.Ns C m' ∧ News h₀ L h' ((D, lstN ys) :: nw) ∧ Off3 I C D nw ∧ J i m' ys nw)
    (fun i s' ⟨h', tk, ys, m', nw, e, st, _⟩ => by subst e; exact st) ?_ ?_ ⟨_, _, _, _, _, rfl, hst, F, hn, N, off, h0⟩
  · rintro i s' v h₂ tk₂ hlt ⟨h', tk, ys, m', nw, rfl, st, F', hn', N', off', hJ⟩ hv st₂ hk
    have F₂ : Fr h₀ L h₂ m := LCg.fr_but F' hk hIL hI₀
    have N₂ : News h₀ L h₂ ((D, lstN ys) :: nw) := LCg.news_but N' hk (away off')
    obtain ⟨oI, heI⟩ := hIo _ _ st₂
    have N₃ : News h₀ L h₂ ((I, oI) :: (D, lstN ys) :: nw) := fun q hq => by
      rcases List.mem_cons.mp hq with rfl | hq
      · exact ⟨heI, Ne.symm hIL, hI₀⟩
      · exact N₂ q hq
    have back : ∀ s₅, LEnd h₀ L m s I oI C D (J (i + 1)) s₅ → ∃ h' tk ys m' nw, s₅ = { s with heap := h', toks := tk } ∧ St (i + 1) h' ∧ Fr h₀ L h' m ∧ h'.Ns C m' ∧ News h₀ L h' ((D, lstN ys) :: nw) ∧ Off3 I C D nw ∧ J (i + 1) m' ys nw := by
      rintro s₅ ⟨h₅, tk₅, ys₅, m₅, nw₅, rfl, F₅, hn₅, N₅, off₅, hJ₅⟩
      refine ⟨_, _, _, _, _, rfl, W.frame _ _ _ st₂ fun b hb o e => ?_, F₅, hn₅, fun q hq => N₅ q (List.mem_cons_of_mem _ hq), off₅, hJ₅⟩
      rcases List.mem_cons.mp hb with rfl | hb
      · have := (N₅ (b, oI) List.mem_cons_self).1
        rw [heI] at e; cases e; exact this
      · obtain ⟨q, hq, rfl⟩ := List.mem_map.mp hb
        have h1 := (N₂ q (List.mem_cons_of_mem _ (hkeep _ _ _ _ hJ q hq))).1
        have h2 := (N₅ q (List.mem_cons_of_mem _ (List.mem_cons_of_mem _ (hkeep _ _ _ _ hJ₅ q hq)))).1
        rw [h1] at e; cases e; exact h2
    refine wpAny_mono (turn i v m' ys nw h₂ tk₂ oI hlt hv st₂ hJ off' F₂ (hn'.at' fun o e => hk _ o (by simpa using Ne.symm hIC) e) N₃) (fun _ s₁ h₁ => wpAny_mono h₁ (fun _ s₂ h₂ => wpP_mono h₂ (fun ok s₃ h₃ => ?_) fun _ _ x => x) fun _ _ x => x) fun _ _ x => x
    cases ok with
    | false => exact back _ h₃
    | true => exact wpP_mono h₃ (fun _ s₅ h₅ => back _ h₅) fun _ _ x => x
  · rintro s' h₂ tk₂ ⟨h', tk, ys, m', nw, rfl, st, F', hn', N', off', hJ⟩ hk
    exact done _ _ _ _ _ (LCg.fr_but F' hk hIL hI₀) (hn'.at' fun o e => hk _ o (by simpa using Ne.symm hIC) e) (LCg.news_but N' hk (away off')) off' hJ
end
end Mine
end
section
open PySem PySem.W PyProof.Rows PySem.Calls
set_option maxRecDepth 100000
namespace Mine
section
variable {P : Ctx → Prop} {prog : Program} {w : World} {A : Around} {E : Value → Shared → Prop} {s : Shared} {env : Env} {h₀ : Heap} {L : Addr} {m : Str → Option Value} {news : List (Addr × Obj)} {elt : Expr} {scope : Scope} {cl : List (Str × Addr)} {pos : Pos}
theorem open_G (K : Kept P) {g : Comprehension} {gens : List Comprehension} {I : Addr} {fp : List Addr} {n : Nat} {Pv : Nat → Value → Prop} {St : Nat → Heap → Prop}
    {RR : Value → Addr → Result → Shared → Prop} (hg : g.is_async = 0)
    (W : Walks prog w A I fp [I] n Pv St) (hIo : ∀ i h, St i h → ∃ o, h.get? I = some o)
    (hcell : ∀ y ∈ scope.names, y.2 ≠ .cell) (hkind : scope.kind = .function) (hst : St 0 s.heap)
    (F : Fr h₀ L s.heap m) (N : News h₀ L s.heap news) (off : ∀ p ∈ news, p.1 ≠ I)
    (k : ∀ C D h₁ tk₁ m₁, I ≠ C → I ≠ D → C ≠ D → C ≠ L → D ≠ L → h₀.get? C = none → h₀.get? D = none → St 0 h₁ → Fr h₀ L h₁ m → h₁.Ns C m₁ → News h₀ L h₁ ((D, lstN []) :: news) → Off3 I C D news →
      codeP P (model prog w) A (.compLoop (.ListComp elt (g :: gens) scope pos) 0 (.ref I) (.ref D) (compEnvC scope cl C env)) (RR (.ref D) C) { s with heap := h₁, toks := tk₁ }) :
    wpAny (model prog w) A (newList []) (fun acc s₃ => wpAny (model prog w) A (newFunctionEnv scope env.globals cl [] env.qual none .none (some env)) (fun cenv s₄ =>
      codeP P (model prog w) A (.compStart (.ListComp elt (g :: gens) scope pos) 0 (.ref I) acc { cenv with scope := relabel scope env }) (RR acc cenv.locals) s₄) E s₃) E s := by
  obtain ⟨target, iter, ifs, asy⟩ := g
  obtain rfl : asy = 0 := hg
  refine wpAny_newObj_type (wpAny_newFunctionEnv hcell (by intro y hy; simp at hy) (fun h₁ hns₁ hsb₁ => ?_) hkind)
  dsimp only at hns₁ hsb₁ ⊢
  generalize hH2 : s.heap.push { cls := .type "list", dict := none, data := .seq ([] : List Value).toArray } = H2 at hns₁ hsb₁ ⊢
  have hC : H2.objs.size = s.heap.objs.size + 1 := by rw [← hH2, Heap.size_push]
  obtain ⟨D, hD⟩ : ∃ D, D = s.heap.objs.size := ⟨_, rfl⟩
  obtain ⟨C, hCe⟩ : ∃ C, C = H2.objs.size := ⟨_, rfl⟩
  rw [← hD] at hC ⊢
  rw [← hCe] at hC hns₁ hsb₁ ⊢
  have fresh₀ : ∀ a, D ≤ a → h₀.get? a = none := fun a ha => by
    cases e : h₀.get? a with
    | none => rfl
    | some o' => exact absurd (Heap.lt_size (F.keep a o' e)) (Nat.not_lt.mpr (hD ▸ ha))
  have below : ∀ b o, s.heap.get? b = some o → b ≠ C ∧ b ≠ D := fun b o e => by
    have h1 := Heap.lt_size e
    rw [← hD] at h1
    have h2 : @LT.lt Nat _ b D := h1
    have h3 : @Eq Nat C (D + 1) := hC
    show @Ne Nat b C ∧ @Ne Nat b D
    omega
  have old : ∀ b o, s.heap.get? b = some o → h₁.get? b = some o := fun b o e => hsb₁.extBut b o (below b o e).1 (Heap.get?_push_of_some _ (hH2 ▸ Heap.get?_push_of_some _ e))
  have hacc : h₁.get? D = some (lstN []) := hsb₁.extBut _ _ (by show @Ne Nat D C; have h3 : @Eq Nat C (D + 1) := hC; omega) (Heap.get?_push_of_some _ (hH2 ▸ hD ▸ Heap.get?_push_size _ rfl))
  obtain ⟨oI₀, hoI₀⟩ := hIo _ _ hst
  have hCD : C ≠ D := by show @Ne Nat C D; have h3 : @Eq Nat C (D + 1) := hC; omega
  obtain ⟨oL, _, _, hoL, _⟩ := F.ns
  have hDL : D ≠ L := Ne.symm (below _ _ hoL).2
  have hD₀ : h₀.get? D = none := fresh₀ _ (Nat.le_refl _)
  have hst₁ : St 0 h₁ := W.frame _ _ _ hst fun b hb o e => old b o e
  have loop := k C D h₁ (s.toks + ([] : List (Str × Value)).length) _ (below _ _ hoI₀).1 (below _ _ hoI₀).2 hCD (Ne.symm (below _ _ hoL).1) hDL (fresh₀ _ (by show @LE.le Nat _ D C; have h3 : @Eq Nat C (D + 1) := hC; omega)) hD₀ hst₁ (F.keeps old) hns₁
    (fun p hp => by
      rcases List.mem_cons.mp hp with rfl | hp
      · exact ⟨hacc, hDL, hD₀⟩
      · exact ⟨old _ _ (N p hp).1, (N p hp).2⟩)
    (fun p hp => ⟨off p hp, (below _ _ (N p hp).1).1, (below _ _ (N p hp).1).2⟩)
  exact compStartP K loop (W.self 0 _ _ _ hst₁ loop)
variable {I C D : Addr} {oI : Obj} {ys : List Value} {nw : List (Addr × Obj)} {m' : Str → Option Value}
/-- the target is a name -/
theorem turn_name {x : Str} {px : Pos} {v : Value} {Q : Shared → Prop} (hx : scope.names.lookup x = some .local) (hkind : scope.kind = .function)
    (hIC : I ≠ C) (hCD : C ≠ D) (hCL : C ≠ L) (hC₀ : h₀.get? C = none) (off : Off3 I C D nw)
    (F : Fr h₀ L s.heap m) (hn : s.heap.Ns C m') (N : News h₀ L s.heap ((I, oI) :: (D, lstN ys) :: nw))
    (h : ∀ h' tk, Fr h₀ L h' m → h'.Ns C (fun z => if z = x then some v else m' z) → News h₀ L h' ((I, oI) :: (D, lstN ys) :: nw) → Q { s with heap := h', toks := tk }) :
    wpAny (model prog w) A (letOwnedTupleGo (.Name x px) (.ref I) v) (fun _ s₁ => wpAny (model prog w) A (assign (.Name x px) (compEnvC scope cl C env) v) (fun _ s₂ => Q s₂) E s₁) E s := by
  have e : letOwnedTupleGo (.Name x px) (.ref I) v = pure () := rfl
  rw [e]
  refine wpAny_pure (wpAny_assign_Name (wpAny_storeName_local (lookup_relabel_local hx) hn (fun h₃ hn₃ hs₃ => ?_) (by simp [compEnvC, relabel, hkind])))
  refine h _ _ (F.change hs₃ hCL hC₀) hn₃ fun p hp => ⟨hs₃.extBut _ _ ?_ (N p hp).1, (N p hp).2⟩
  rcases List.mem_cons.mp hp with rfl | hp
  · exact hIC
  · rcases List.mem_cons.mp hp with rfl | hp
    · exact Ne.symm hCD
    · exact (off p hp).2.1
/-- the target is a pair of names, the item a tuple of two -/
theorem turn_pair {x y : Str} {px py tp : Pos} {kk : Nat} {t : Addr} {v₁ v₂ : Value} {nt : Nat} {Q : Shared → Prop} (hx : scope.names.lookup x = some .local) (hy : scope.names.lookup y = some .local) (hkind : scope.kind = .function) (hh : A.handled = none)
    (hit : ∃ l j, s.heap.IsListIter I l j) (hm : (t, tupObj [v₁, v₂] nt) ∈ nw)
    (hIC : I ≠ C) (hCD : C ≠ D) (hCL : C ≠ L) (hC₀ : h₀.get? C = none) (off : Off3 I C D nw)
    (F : Fr h₀ L s.heap m) (hn : s.heap.Ns C m') (N : News h₀ L s.heap ((I, oI) :: (D, lstN ys) :: nw))
    (h : ∀ h' tk, Fr h₀ L h' m → h'.Ns C (fun z => if z = y then some v₂ else if z = x then some v₁ else m' z) → News h₀ L h' ((I, oI) :: (D, lstN ys) :: nw) → Q { s with heap := h', toks := tk }) :
    wpAny (model prog w) A (letOwnedTupleGo (.Tuple [.Name x px, .Name y py] kk tp) (.ref I) (.ref t)) (fun _ s₁ => wpAny (model prog w) A (assign (.Tuple [.Name x px, .Name y py] kk tp) (compEnvC scope cl C env) (.ref t)) (fun _ s₂ => Q s₂) E s₁) E s := by
  obtain ⟨l, j, hit⟩ := hit
  refine wpAny_letOwnedTupleGo_listiter hit ?_
  have ht : s.heap.IsTuple t #[v₁, v₂] := ⟨_, (N _ (List.mem_cons_of_mem _ (List.mem_cons_of_mem _ hm))).1, rfl, _, rfl⟩
  refine kcp_assign hh ht (lookup_relabel_local hx) (lookup_relabel_local hy) (by simp [compEnvC, relabel, hkind]) hn fun h₃ tk hn₃ old => ?_
  refine h _ _ ⟨F.ns.at' fun o e => old _ o (Ne.symm hCL) e, fun b o e => old b o (fun q => by rw [show b = C from q, hC₀] at e; cases e) (F.keep b o e), F.above⟩ hn₃ fun p hp => ⟨old _ _ ?_ (N p hp).1, (N p hp).2⟩
  rcases List.mem_cons.mp hp with rfl | hp
  · exact hIC
  · rcases List.mem_cons.mp hp with rfl | hp
    · exact Ne.symm hCD
    · exact (off p hp).2.1
/-- the element goes to the list's end -/
theorem emit_G {b : Shared} {cenv : Env} {oC : Obj} {J : (Str → Option Value) → List Value → List (Addr × Obj) → Prop} (hID : I ≠ D) (hCD : C ≠ D) (hoC : LCg.NsObj oC m') (hlen : ys.length + 1 ≤ 1000000)
    (h : wpP P (model prog w) A (eval elt cenv) (CEnd h₀ L m b I oI C oC D ys (fun y nw' => J m' (ys ++ [y]) nw')) (fun _ _ => False) s) :
    wpP P (model prog w) A (do let _ ← call (.builtin "list.append") [.ref D, ← eval elt cenv]) (fun _ => LEnd h₀ L m b I oI C D J) (fun _ _ => False) s := by
  refine wpP_bind (wpP_mono h (fun y s₅ h₅ => ?_) fun _ _ x => x)
  obtain ⟨h₅, tk₅, news₅, rfl, F₅, N₅, off₅, hJ₅⟩ := h₅
  refine wpP_bindA ?_
  refine append_L (pre := [(I, oI), (C, oC)]) (post := news₅) F₅ N₅ (fun p hp => by
    rcases List.mem_cons.mp hp with rfl | hp
    · exact hID
    · rw [List.mem_singleton.mp hp]; exact hCD) (fun p hp => (off₅ p hp).2.2) (fun h₆ F₆ N₆ => ?_) (by omega)
  refine wpP_pure ⟨_, _, ys ++ [y], m', news₅, rfl, F₆, hoC.ns (N₆ (C, oC) (List.mem_append.mpr (.inl (List.mem_cons_of_mem _ List.mem_cons_self)))).1, fun p hp => ?_, off₅, hJ₅⟩
  have e : lstN (ys ++ [y]) = listOf (ys ++ [y]).toArray (ys.length + 1) := by simp [lstN]
  rcases List.mem_cons.mp hp with rfl | hp
  · exact N₆ _ (List.mem_append.mpr (.inl List.mem_cons_self))
  · rw [e] at hp
    exact N₆ p (List.mem_append.mpr (.inr hp))
end
end Mine
end
section
open PySem PySem.W PyProof.Rows PySem.Calls
set_option maxRecDepth 100000
namespace Mine
section
variable {P : Ctx → Prop} {prog : Program} {w : World} {A : Around} {E : Value → Shared → Prop} {R : Result → Shared → Prop} {s : Shared} {env : Env} {h₀ : Heap} {L : Addr} {m : Str → Option Value} {news : List (Addr × Obj)} {elt iter : Expr} {ifs : List Expr} {scope : Scope} {cl : List (Str × Addr)} {pos : Pos} {use : Option (Value → Sem Unit)} {Q : Value → Shared → Prop}
theorem eval_LCG (K : Kept P) {target : Expr} {gens : List Comprehension} (hclos : closureFor scope env = pure cl) (hkind : scope.kind = .function) (hnames : ∀ x ∈ scope.names, x.2 = .local → scope.names.lookup x.1 = some .local)
    (hs : ∀ x, foldedSetIterable iter env x = pure x)
    (h : wpP P (model prog w) A (eval iter env) (CGoal P prog w A E none Q (.ListComp elt (⟨target, iter, ifs, 0⟩ :: gens) scope pos) scope cl env) E s) :
    wpP P (model prog w) A (eval (.ListComp elt (⟨target, iter, ifs, 0⟩ :: gens) scope pos) env) Q E s := by
  rw [eval_ListComp]
  exact compP K rfl hs hclos hkind hnames h
/-- one turn over pairs -/
abbrev CStep2 (P : Ctx → Prop) (prog : Program) (w : World) (A : Around) (env : Env) (elt : Expr) (ifs : List Expr) (x y : Str) (scope : Scope) (cl : List (Str × Addr)) (h₀ : Heap) (L : Addr) (m : Str → Option Value) (s : Shared) (v₁ v₂ : Value) (ys : List Value) (nw : List (Addr × Obj)) (J : List Value → List (Addr × Obj) → Prop) : Prop :=
  ∀ h₁ tk₁ I oI C oC D m₂, Off3 I C D nw → (@Ne Nat I C ∧ @Ne Nat I D ∧ @Ne Nat C D) → LCg.NsObj oC m₂ → m₂ x = some v₁ → m₂ y = some v₂ → Fr h₀ L h₁ m → News h₀ L h₁ ((I, oI) :: (C, oC) :: (D, lstN ys) :: nw) →
    CTurn P prog w A (compEnvC scope cl C env) elt ifs h₀ L m s I oI C oC D ys J { s with heap := h₁, toks := tk₁ }
theorem comp_pair (K : Kept P) {a : Addr} {vs : List Value} {k : Nat} {x y : Str} {px py tp : Pos} {kk : Nat} (hh : A.handled = none) (hcell : ∀ z ∈ scope.names, z.2 ≠ .cell) (hkind : scope.kind = .function) (hx : scope.names.lookup x = some .local) (hy : scope.names.lookup y = some .local) (hxy : x ≠ y)
    (F : Fr h₀ L s.heap m) (N : News h₀ L s.heap news) (hm : (a, lstObj vs k) ∈ news) (hsz : vs.length < 1000000)
    (J : Nat → List Value → List (Addr × Obj) → Prop) (hkeep : ∀ i ys nw, J i ys nw → (a, lstObj vs k) ∈ nw) (hlen : ∀ i ys nw, J i ys nw → ys.length ≤ i) (h0 : J 0 [] news)
    (turn : ∀ i v ys nw, vs[i]? = some v → J i ys nw → ∃ t v₁ v₂ nt, v = .ref t ∧ (t, tupObj [v₁, v₂] nt) ∈ nw ∧ CStep2 P prog w A env elt ifs x y scope cl h₀ L m s v₁ v₂ ys nw (J (i + 1)))
    (fin : ∀ ys nw, J vs.length ys nw → CFin (model prog w) A E use Q h₀ L m s ys nw) :
    CGoal P prog w A E use Q (.ListComp elt [⟨.Tuple [.Name x px, .Name y py] kk tp, iter, ifs, 0⟩] scope pos) scope cl env (.ref a) s := by
  have hT : s.heap.IsList a vs.toArray := ⟨_, (N _ hm).1, rfl, _, rfl⟩
  have hlt : a < s.heap.objs.size := Heap.lt_size (N _ hm).1
  refine wpAny_pyIter_list hT ?_
  have up : ∀ b o, s.heap.get? b = some o → (s.heap.push { cls := .type "list_iterator", data := .fields #[.ref a, .int 0 0] }).get? b = some o := fun b o e => Heap.get?_push_of_some _ e
  obtain ⟨f1, f2⟩ := fresh_I F
  refine open_G (s := { s with heap := s.heap.push { cls := .type "list_iterator", data := .fields #[.ref a, .int 0 0] } }) K rfl (Walks.list hh s.heap.objs.size a (Nat.ne_of_lt hlt) vs.toArray)
    (fun i h st => by obtain ⟨o, e, _⟩ := st.1; exact ⟨o, e⟩) hcell hkind ⟨⟨_, Heap.get?_push_size _ rfl, rfl, rfl⟩, hT.at fun o e => up _ _ e⟩ (F.keeps up) (N.grown up) (fun p hp => Nat.ne_of_lt (Heap.lt_size (N p hp).1)) ?_
  intro C D h₁ tk₁ m₁ hIC hID hCD hCL hDL hC₀ hD₀ hst F₁ hn₁ N₁ off₁
  refine loop_G (s := { s with heap := h₁, toks := tk₁ }) K rfl (keep := [(a, lstObj vs k)]) (Walks.list hh s.heap.objs.size a (Nat.ne_of_lt hlt) vs.toArray) (fun i h st => by obtain ⟨o, e, _⟩ := st.1; exact ⟨o, e⟩) hIC hID f1 f2
    (fun i _ ys nw => J i ys nw) (fun i _ ys nw hJ p hp => by rw [List.mem_singleton.mp hp]; exact hkeep i ys nw hJ) ?turn ?done hst F₁ hn₁ N₁ off₁ h0
  case turn =>
    intro i v m' ys nw h₂ tk₂ oI hi hv hst₂ hJ off₂ F₂ hn₂ N₂
    obtain ⟨t, v₁, v₂, nt, rfl, hm₂, step⟩ := turn i v ys nw (by simpa using hv) hJ
    refine turn_pair (s := { s with heap := h₂, toks := tk₂ }) hx hy hkind hh ⟨_, _, hst₂.1⟩ hm₂ hIC hCD hCL hC₀ off₂ F₂ hn₂ N₂ fun h₃ tk₃ F₃ hn₃ N₃ => ?_
    obtain ⟨oC, heC, hoC⟩ := LCg.ns_obj hn₃
    have N₄ : News h₀ L h₃ ((s.heap.objs.size, oI) :: (C, oC) :: (D, lstN ys) :: nw) := fun p hp => by
      rcases List.mem_cons.mp hp with rfl | hp
      · exact N₃ _ List.mem_cons_self
      · rcases List.mem_cons.mp hp with rfl | hp
        · exact ⟨heC, hCL, hC₀⟩
        · exact N₃ p (List.mem_cons_of_mem _ hp)
    refine wpP_mono (step h₃ tk₃ _ oI C oC D _ off₂ ⟨hIC, hID, hCD⟩ hoC (by simp [hxy]) (by simp) F₃ N₄) (fun ok s₄ h₄ => ?_) fun _ _ x => x
    cases ok with
    | false =>
      obtain ⟨h₅, tk₅, news₅, rfl, F₅, N₅, off₅, hJ₅⟩ := h₄
      exact ⟨h₅, tk₅, ys, _, news₅, rfl, F₅, hoC.ns (N₅ (C, oC) (List.mem_cons_of_mem _ List.mem_cons_self)).1, fun p hp => by
        rcases List.mem_cons.mp hp with rfl | hp
        · exact N₅ _ List.mem_cons_self
        · exact N₅ p (List.mem_cons_of_mem _ (List.mem_cons_of_mem _ hp)), off₅, hJ₅⟩
    | true =>
      have := hlen i ys nw hJ
      have hi' : i < vs.length := by simpa using hi
      rw [if_pos rfl] at h₄ ⊢
      exact emit_G hID hCD hoC (by omega) (J := fun _ ys nw => J (i + 1) ys nw) h₄
  case done =>
    intro h tk m' ys nw F' hn' N' off' hJ
    exact fin ys nw (by simpa using hJ) D C h tk m' F' N' (fun p hp => ⟨(off' p hp).2.2, (off' p hp).2.1⟩) hn' hC₀ hD₀ hCL hDL hCD
end
end Mine
end
section
open PySem PySem.W PyProof.Rows PySem.Calls
set_option maxRecDepth 100000
namespace Mine
section
variable {P : Ctx → Prop} {prog : Program} {w : World} {A : Around} {E : Value → Shared → Prop} {R : Result → Shared → Prop} {s : Shared} {env : Env} {h₀ : Heap} {L : Addr} {m : Str → Option Value} {news : List (Addr × Obj)} {elt iter iter2 : Expr} {ifs : List Expr} {scope : Scope} {cl : List (Str × Addr)} {pos : Pos} {use : Option (Value → Sem Unit)} {Q : Value → Shared → Prop}
theorem compStartP1 (K : Kept P) {g : Comprehension} {target iter : Expr} {rest : List Comprehension} {it acc : Value} {env : Env}
    (h0 : codeP P (model prog w) A (.compLoop (.ListComp elt (g :: ⟨target, iter, ifs, 0⟩ :: rest) scope pos) 1 it acc env) R s)
    (h : wpAny (model prog w) A (pyIter it) (fun it' s' => codeP P (model prog w) A (.compLoop (.ListComp elt (g :: ⟨target, iter, ifs, 0⟩ :: rest) scope pos) 1 it' acc env) R s') (fun _ _ => False) s) :
    codeP P (model prog w) A (.compStart (.ListComp elt (g :: ⟨target, iter, ifs, 0⟩ :: rest) scope pos) 1 it acc env) R s := by
  refine codeP_of_tree K ?_
  rw [Around.under_of_weight (A := A) (c := .compStart (.ListComp elt (g :: ⟨target, iter, ifs, 0⟩ :: rest) scope pos) 1 it acc env) rfl]
  show wpP P _ _ ((compStart (.ListComp elt (g :: ⟨target, iter, ifs, 0⟩ :: rest) scope pos) 1 it acc env).onRaise (fun x => do noteFrame x env; standAt theWindowsPlace)) _ _ s
  refine wpP_onRaise ?_
  unfold compStart
  show wpP P _ _ (ask >>= _) _ _ s
  refine wpP_bindA (wpAny_askSetting ?_)
  split
  · first
      | exact wpP_bind (wpP_pure (wpP_pure ⟨rfl, rfl, h0⟩))
      | exact wpP_pure ⟨rfl, rfl, h0⟩
  · refine wpP_bindA (wpAny_rule ?_)
    show wpP P _ _ (standAt iter.pos >>= _) _ _ s
    refine wpP_bind (wpP_standAt (wpP_bindA (wpAny_mono h (fun it' s' h' => wpP_pure ⟨rfl, rfl, h'⟩) fun _ _ x => x.elim)))
theorem turn_first (tx ty : Expr) (ifs1 : List Expr) (it acc : Value) (env : Env) : compTurn (.ListComp elt [⟨tx, iter, ifs1, 0⟩, ⟨ty, iter2, ifs, 0⟩] scope pos) 0 it acc env =
    ClauseTurn iter.pos tx ifs1 it env (do
      let x ← eval iter2 env
      standAt iter2.pos
      let x ← foldedSetIterable iter2 env x
      let _ ← runOwn (.compStart (.ListComp elt [⟨tx, iter, ifs1, 0⟩, ⟨ty, iter2, ifs, 0⟩] scope pos) 1 (← holding [x] (pyIter x)) acc env) env)
      (.compLoop (.ListComp elt [⟨tx, iter, ifs1, 0⟩, ⟨ty, iter2, ifs, 0⟩] scope pos) 0 it acc env) := by
  simp only [ClauseTurn, bind_assoc, pure_bind]
  rfl
theorem turn_second (tx ty : Expr) (ifs1 : List Expr) (it acc : Value) (env : Env) : compTurn (.ListComp elt [⟨tx, iter, ifs1, 0⟩, ⟨ty, iter2, ifs, 0⟩] scope pos) 1 it acc env =
    ClauseTurn iter2.pos ty ifs it env (do let _ ← call (.builtin "list.append") [acc, ← eval elt env])
      (.compLoop (.ListComp elt [⟨tx, iter, ifs1, 0⟩, ⟨ty, iter2, ifs, 0⟩] scope pos) 1 it acc env) := by rfl
/-- the ledger inside the second clause's block -/
abbrev Led2 (I₂ : Addr) (o₂ : Obj) (C : Addr) (oC : Obj) (D : Addr) (ys : List Value) (I₁ : Addr) (o₁ : Obj) (nw : List (Addr × Obj)) : List (Addr × Obj) := (I₂, o₂) :: (C, oC) :: (D, lstN ys) :: (I₁, o₁) :: nw
/-- the element is one new thing -/
noncomputable def Pend2 (h₀ : Heap) (L : Addr) (m : Str → Option Value) (s : Shared) (led : List (Addr × Obj)) (J : Value → (Addr × Obj) → Prop) (y : Value) (s' : Shared) : Prop :=
  ∃ h' tk q, s' = { s with heap := h', toks := tk } ∧ Fr h₀ L h' m ∧ News h₀ L h' (q :: led) ∧ (∀ p ∈ led, p.1 ≠ q.1) ∧ J y q
noncomputable def Send2 (h₀ : Heap) (L : Addr) (m : Str → Option Value) (s : Shared) (led : List (Addr × Obj)) (s' : Shared) : Prop :=
  ∃ h' tk, s' = { s with heap := h', toks := tk } ∧ Fr h₀ L h' m ∧ News h₀ L h' led
theorem Pend2.intro {led : List (Addr × Obj)} {J : Value → (Addr × Obj) → Prop} {y : Value} {h' : Heap} {tk : Nat} {q : Addr × Obj} (F : Fr h₀ L h' m) (N : News h₀ L h' (q :: led)) (off : ∀ p ∈ led, p.1 ≠ q.1) (hJ : J y q) : Pend2 h₀ L m s led J y { s with heap := h', toks := tk } := ⟨h', tk, q, rfl, F, N, off, hJ⟩
theorem Send2.intro {led : List (Addr × Obj)} {h' : Heap} {tk : Nat} (F : Fr h₀ L h' m) (N : News h₀ L h' led) : Send2 h₀ L m s led { s with heap := h', toks := tk } := ⟨h', tk, rfl, F, N⟩
theorem comp_two (K : Kept P) {x y : Str} {px py : Pos} {a b c : Int} {r : Addr} {t u v : Tok} {n : Nat} {a2 b2 c2 : Nat → Int} {n2 : Nat → Nat} (hh : A.handled = none) (hcell : ∀ z ∈ scope.names, z.2 ≠ .cell) (hkind : scope.kind = .function) (hx : scope.names.lookup x = some .local) (hy : scope.names.lookup y = some .local) (hxy : x ≠ y)
    (hsm : Builtin.Range.small a b c = true) (hn : Builtin.Range.rangeSize a b c = (n : Int)) (hr : IsRange s.heap r a b c t u v)
    (hs2 : ∀ x e, foldedSetIterable iter2 e x = pure x)
    (F : Fr h₀ L s.heap m) (N : News h₀ L s.heap news)
    (J : Nat → List Value → List (Addr × Obj) → Prop) (JJ : Nat → Nat → List Value → List (Addr × Obj) → Prop) (hlen : ∀ i j ys nw, JJ i j ys nw → ys.length + 1 ≤ 1000000) (h0 : J 0 [] news)
    (src : ∀ i t ys nw, i < n → J i ys nw → ∀ h₁ tk₁ I oI C oC D m₂, Off3 I C D nw → (@Ne Nat I C ∧ @Ne Nat I D ∧ @Ne Nat C D) → LCg.NsObj oC m₂ → m₂ x = some (.int (a + i * c) t) → Fr h₀ L h₁ m → News h₀ L h₁ ((I, oI) :: (C, oC) :: (D, lstN ys) :: nw) →
      wpP P (model prog w) A (eval iter2 (compEnvC scope cl C env)) (RngAt h₀ L m ((I, oI) :: (C, oC) :: (D, lstN ys) :: nw) s (a2 i) (b2 i) (c2 i)) (fun _ _ => False) { s with heap := h₁, toks := tk₁ })
    (hsm2 : ∀ i, i < n → Builtin.Range.small (a2 i) (b2 i) (c2 i) = true) (hn2 : ∀ i, i < n → Builtin.Range.rangeSize (a2 i) (b2 i) (c2 i) = (n2 i : Int))
    (in0 : ∀ i ys nw, i < n → J i ys nw → JJ i 0 ys nw)
    (step : ∀ i j t t' ys nw, i < n → j < n2 i → JJ i j ys nw → ∀ h₁ tk₁ I₁ o₁ I₂ o₂ C oC D m₂, Off3 I₂ C D nw → Off3 I₁ C D nw → (@Ne Nat I₂ C ∧ @Ne Nat I₂ D ∧ @Ne Nat C D ∧ @Ne Nat I₁ I₂ ∧ @Ne Nat I₁ C ∧ @Ne Nat I₁ D) → LCg.NsObj oC m₂ → m₂ x = some (.int (a + i * c) t) → m₂ y = some (.int (a2 i + j * c2 i) t') → Fr h₀ L h₁ m → News h₀ L h₁ (Led2 I₂ o₂ C oC D ys I₁ o₁ nw) →
      wpP P (model prog w) A (TestsOf ifs (compEnvC scope cl C env)) (fun ok s₃ => if ok = true then
          wpP P (model prog w) A (eval elt (compEnvC scope cl C env)) (Pend2 h₀ L m s (Led2 I₂ o₂ C oC D ys I₁ o₁ nw) (fun y q => JJ i (j + 1) (ys ++ [y]) (q :: nw))) (fun _ _ => False) s₃
        else Send2 h₀ L m s (Led2 I₂ o₂ C oC D ys I₁ o₁ nw) s₃ ∧ JJ i (j + 1) ys nw) (fun _ _ => False) { s with heap := h₁, toks := tk₁ })
    (out : ∀ i ys nw, i < n → JJ i (n2 i) ys nw → J (i + 1) ys nw)
    (fin : ∀ ys nw, J n ys nw → CFin (model prog w) A E use Q h₀ L m s ys nw) :
    CGoal P prog w A E use Q (.ListComp elt [⟨.Name x px, iter, [], 0⟩, ⟨.Name y py, iter2, ifs, 0⟩] scope pos) scope cl env (.ref r) s := by
  refine wpAny_pyIter_range hr hsm ?_
  have up : ∀ b' o, s.heap.get? b' = some o → (s.heap.push { cls := .type "range_iterator", data := .fields #[rawInt a, rawInt (Builtin.Range.rangeSize a b c), rawInt c] }).get? b' = some o := fun b o e => Heap.get?_push_of_some _ e
  obtain ⟨f1, f2⟩ := fresh_I F
  refine open_G (s := { s with heap := s.heap.push { cls := .type "range_iterator", data := .fields #[rawInt a, rawInt (Builtin.Range.rangeSize a b c), rawInt c] } }) K rfl (Walks.range hh s.heap.objs.size a c n)
    (fun i h st => ⟨_, st⟩) hcell hkind (by show IsRangeIter _ _ _ _ _; rw [hn]; simpa using Heap.get?_push_size _ rfl) (F.keeps up) (N.grown up) (fun p hp => Nat.ne_of_lt (Heap.lt_size (N p hp).1)) ?_
  intro C D h₁ tk₁ m₁ hIC hID hCD hCL hDL hC₀ hD₀ hst F₁ hn₁ N₁ off₁
  refine loop_G (s := { s with heap := h₁, toks := tk₁ }) K (turn_first _ _ _ _ _ _) (keep := []) (Walks.range hh s.heap.objs.size a c n) (fun i h st => ⟨_, st⟩) hIC hID f1 f2
    (fun i _ ys nw => J i ys nw) (fun i _ ys nw hJ p hp => nomatch hp) ?turn ?done hst F₁ hn₁ N₁ off₁ h0
  case turn =>
    intro i v m' ys nw h₂ tk₂ oI hi hv hst₂ hJ off₂ F₂ hn₂ N₂
    obtain ⟨t, rfl⟩ := hv
    refine turn_name (s := { s with heap := h₂, toks := tk₂ }) hx hkind hIC hCD hCL hC₀ off₂ F₂ hn₂ N₂ fun h₃ tk₃ F₃ hn₃ N₃ => ?_
    obtain ⟨oC, heC, hoC⟩ := LCg.ns_obj hn₃
    have N₄ : News h₀ L h₃ ((s.heap.objs.size, oI) :: (C, oC) :: (D, lstN ys) :: nw) := fun p hp => by
      rcases List.mem_cons.mp hp with rfl | hp
      · exact N₃ _ List.mem_cons_self
      · rcases List.mem_cons.mp hp with rfl | hp
        · exact ⟨heC, hCL, hC₀⟩
        · exact N₃ p (List.mem_cons_of_mem _ hp)
    refine Tests_nil ?_
    rw [if_pos rfl]
    refine wpP_bind (wpP_mono (src i t ys nw hi hJ h₃ tk₃ _ oI C oC D _ off₂ ⟨hIC, hID, hCD⟩ hoC (by simp) F₃ N₄) (fun x2 s₅ h₅ => ?_) fun _ _ x => x)
    obtain ⟨r2, t2, u2, v2, h₅, tk₅, rfl, rfl, hr2, F₅, N₅⟩ := h₅
    refine wpP_bind (wpP_standAt (wpP_bindA (wpAny_of_eq (hs2 _ _) ?_)))
    dsimp only at hr2 F₅ N₅ ⊢
    refine wpP_bindA (wpAny_holding (wpAny_pyIter_range hr2 (hsm2 i hi) ?_))
    dsimp only
    have up2 : ∀ b' o, h₅.get? b' = some o → (h₅.push { cls := .type "range_iterator", data := .fields #[rawInt (a2 i), rawInt (Builtin.Range.rangeSize (a2 i) (b2 i) (c2 i)), rawInt (c2 i)] }).get? b' = some o := fun b o e => Heap.get?_push_of_some _ e
    obtain ⟨g1, g2⟩ := fresh_I (s := { s with heap := h₅ }) F₅
    have below : ∀ b o, h₅.get? b = some o → b ≠ h₅.objs.size := fun b o e => Nat.ne_of_lt (Heap.lt_size e)
    have hI₁ := below _ _ (N₅ _ List.mem_cons_self).1
    have hC₁ := below _ _ (N₅ (C, oC) (List.mem_cons_of_mem _ List.mem_cons_self)).1
    have hD₁ := below _ _ (N₅ (D, lstN ys) (List.mem_cons_of_mem _ (List.mem_cons_of_mem _ List.mem_cons_self))).1
    have offn : ∀ p ∈ nw, p.1 ≠ h₅.objs.size := fun p hp => below _ _ (N₅ p (List.mem_cons_of_mem _ (List.mem_cons_of_mem _ (List.mem_cons_of_mem _ hp)))).1
    have hst5 : IsRangeIter (h₅.push { cls := .type "range_iterator", data := .fields #[rawInt (a2 i), rawInt (Builtin.Range.rangeSize (a2 i) (b2 i) (c2 i)), rawInt (c2 i)] }) h₅.objs.size (a2 i + ((0 : Nat) : Int) * c2 i) ((n2 i : Int) - ((0 : Nat) : Int)) (c2 i) := by
      show IsRangeIter _ _ _ _ _; rw [hn2 i hi]; simpa using Heap.get?_push_size _ rfl
    have hnC : (h₅.push { cls := .type "range_iterator", data := .fields #[rawInt (a2 i), rawInt (Builtin.Range.rangeSize (a2 i) (b2 i) (c2 i)), rawInt (c2 i)] }).Ns C (fun z => if z = x then some (Value.int (a + i * c) t) else m' z) :=
      hoC.ns (up2 _ _ (N₅ (C, oC) (List.mem_cons_of_mem _ List.mem_cons_self)).1)
    have loop : codeP P (model prog w) A (.compLoop (.ListComp elt [⟨.Name x px, iter, [], 0⟩, ⟨.Name y py, iter2, ifs, 0⟩] scope pos) 1 (.ref h₅.objs.size) (.ref D) (compEnvC scope cl C env))
        (fun r s' => match r with | .ok _ => LEnd h₀ L m { s with heap := h₁, toks := tk₁ } s.heap.objs.size oI C D (fun _ ys nw => J (i + 1) ys nw) s' | .error _ => False)
        { s with heap := h₅.push { cls := .type "range_iterator", data := .fields #[rawInt (a2 i), rawInt (Builtin.Range.rangeSize (a2 i) (b2 i) (c2 i)), rawInt (c2 i)] }, toks := tk₅ } := by
      refine loop_G (s := { s with heap := h₅.push { cls := .type "range_iterator", data := .fields #[rawInt (a2 i), rawInt (Builtin.Range.rangeSize (a2 i) (b2 i) (c2 i)), rawInt (c2 i)] }, toks := tk₅ }) K (turn_second _ _ _ _ _ _) (keep := []) (Walks.range hh h₅.objs.size (a2 i) (c2 i) (n2 i)) (fun i h st => ⟨_, st⟩) (Ne.symm hC₁) (Ne.symm hD₁) g1 g2
        (fun j m₃ ys nw₂ => ∃ nw, nw₂ = (s.heap.objs.size, oI) :: nw ∧ JJ i j ys nw ∧ Off3 s.heap.objs.size C D nw ∧ m₃ x = some (.int (a + i * c) t)) (fun i _ ys nw hJ p hp => nomatch hp) ?turn2 ?done2 hst5 (F₅.keeps up2) hnC
        (ys := ys) (nw := (s.heap.objs.size, oI) :: nw) (fun p hp => ?nws) (fun p hp => ?off) ⟨nw, rfl, in0 i ys nw hi hJ, off₂, by simp⟩
      case nws =>
        have : p ∈ (s.heap.objs.size, oI) :: (C, oC) :: (D, lstN ys) :: nw := by
          rcases List.mem_cons.mp hp with rfl | hp
          · exact List.mem_cons_of_mem _ (List.mem_cons_of_mem _ List.mem_cons_self)
          · rcases List.mem_cons.mp hp with rfl | hp
            · exact List.mem_cons_self
            · exact List.mem_cons_of_mem _ (List.mem_cons_of_mem _ (List.mem_cons_of_mem _ hp))
        exact (N₅.grown up2) p this
      case off =>
        rcases List.mem_cons.mp hp with rfl | hp
        · exact ⟨hI₁, hIC, hID⟩
        · exact ⟨offn p hp, (off₂ p hp).2⟩
      case turn2 =>
        rintro j v m₃ ys₂ nw₂ h₆ tk₆ o₂ hj hv hst₆ ⟨nw₃, rfl, hJJ, off₃, hmx⟩ off₆ F₆ hn₆ N₆
        obtain ⟨t', rfl⟩ := hv
        refine turn_name (s := { s with heap := h₆, toks := tk₆ }) hy hkind (Ne.symm hC₁) hCD hCL hC₀ off₆ F₆ hn₆ N₆ fun h₇ tk₇ F₇ hn₇ N₇ => ?_
        obtain ⟨oC₂, heC₂, hoC₂⟩ := LCg.ns_obj hn₇
        have N₈ : News h₀ L h₇ (Led2 h₅.objs.size o₂ C oC₂ D ys₂ s.heap.objs.size oI nw₃) := fun p hp => by
          rcases List.mem_cons.mp hp with rfl | hp
          · exact N₇ _ List.mem_cons_self
          · rcases List.mem_cons.mp hp with rfl | hp
            · exact ⟨heC₂, hCL, hC₀⟩
            · exact N₇ p (List.mem_cons_of_mem _ hp)
        have off₇ : Off3 h₅.objs.size C D nw₃ := fun p hp => off₆ p (List.mem_cons_of_mem _ hp)
        refine wpP_mono (step i j t t' ys₂ nw₃ hi hj hJJ h₇ tk₇ _ oI _ o₂ C oC₂ D _ off₇ off₃ ⟨Ne.symm hC₁, Ne.symm hD₁, hCD, hI₁, hIC, hID⟩ hoC₂ (by simp [hxy]; exact hmx) (by simp) F₇ N₈) (fun ok s₄ h₄ => ?_) fun _ _ x => x
        cases ok with
        | false =>
          obtain ⟨⟨h₉, tk₉, rfl, F₉, N₉⟩, hJ₉⟩ := h₄
          exact ⟨h₉, tk₉, ys₂, _, (s.heap.objs.size, oI) :: nw₃, rfl, F₉, hoC₂.ns (N₉ (C, oC₂) (List.mem_cons_of_mem _ List.mem_cons_self)).1, fun p hp => by
            rcases List.mem_cons.mp hp with rfl | hp
            · exact N₉ _ List.mem_cons_self
            · exact N₉ p (List.mem_cons_of_mem _ (List.mem_cons_of_mem _ hp)), off₆, nw₃, rfl, hJ₉, off₃, by simp [hxy]; exact hmx⟩
        | true =>
          rw [if_pos rfl] at h₄ ⊢
          refine emit_G (I := h₅.objs.size) (oI := o₂) (oC := oC₂) (Ne.symm hD₁) hCD hoC₂ (hlen _ _ _ _ hJJ) (wpP_mono h₄ (fun y' s₉ h₉ => ?_) fun _ _ x => x)
          obtain ⟨h₉, tk₉, q, rfl, F₉, N₉, ne₉, hJ₉⟩ := h₉
          have q1 := ne₉ (h₅.objs.size, o₂) List.mem_cons_self
          have q2 := ne₉ (C, oC₂) (List.mem_cons_of_mem _ List.mem_cons_self)
          have q3 := ne₉ (D, lstN ys₂) (List.mem_cons_of_mem _ (List.mem_cons_of_mem _ List.mem_cons_self))
          have q4 := ne₉ (s.heap.objs.size, oI) (List.mem_cons_of_mem _ (List.mem_cons_of_mem _ (List.mem_cons_of_mem _ List.mem_cons_self)))
          refine ⟨h₉, tk₉, (s.heap.objs.size, oI) :: q :: nw₃, rfl, F₉, fun p hp => N₉ p ?_, fun p hp => ?_, q :: nw₃, rfl, hJ₉, fun p hp => ?_, by simp [hxy]; exact hmx⟩
          · simp only [List.mem_cons] at hp ⊢
            rcases hp with rfl | rfl | rfl | rfl | rfl | hp
            · exact .inr (.inl rfl)
            · exact .inr (.inr (.inl rfl))
            · exact .inr (.inr (.inr (.inl rfl)))
            · exact .inr (.inr (.inr (.inr (.inl rfl))))
            · exact .inl rfl
            · exact .inr (.inr (.inr (.inr (.inr hp))))
          · rcases List.mem_cons.mp hp with rfl | hp
            · exact off₆ _ List.mem_cons_self
            · rcases List.mem_cons.mp hp with rfl | hp
              · exact ⟨Ne.symm q1, Ne.symm q2, Ne.symm q3⟩
              · exact off₇ p hp
          · rcases List.mem_cons.mp hp with rfl | hp
            · exact ⟨Ne.symm q4, Ne.symm q2, Ne.symm q3⟩
            · exact off₃ p hp
      case done2 =>
        rintro h₆ tk₆ m₃ ys₂ nw₂ F₆ hn₆ N₆ off₆ ⟨nw₃, rfl, hJJ, off₃, hmx⟩
        refine ⟨h₆, tk₆, ys₂, m₃, nw₃, rfl, F₆, hn₆, fun p hp => N₆ p ?_, off₃, out i ys₂ nw₃ hi hJJ⟩
        rcases List.mem_cons.mp hp with rfl | hp
        · exact List.mem_cons_of_mem _ List.mem_cons_self
        · rcases List.mem_cons.mp hp with rfl | hp
          · exact List.mem_cons_self
          · exact List.mem_cons_of_mem _ (List.mem_cons_of_mem _ hp)
    refine wpP_bind (wpP_runOwn K rfl (codeP_mono (compStartP1 K loop ((Walks.range hh h₅.objs.size (a2 i) (c2 i) (n2 i)).self 0 _ _ _ hst5 loop)) fun r s' hr => ?_))
    cases r with
    | ok f => exact wpP_pure hr
    | error e => exact hr
  case done =>
    intro h tk m' ys nw F' hn' N' off' hJ
    exact fin ys nw hJ D C h tk m' F' N' (fun p hp => ⟨(off' p hp).2.2, (off' p hp).2.1⟩) hn' hC₀ hD₀ hCL hDL hCD
end
end Mine
end
section
open PySem PySem.W PyProof.Rows PySem.Calls
set_option maxRecDepth 100000
namespace Mine
/-- the table of {False} -/
abbrev tabF (led : Bool) : SetTable := { mask := 7, place := #[0], dummies := #[], finger := 0, led := led, moves := 0, plain := true }
abbrev setE (led : Bool) : Obj := { cls := .type "set", dict := none, data := .set #[] 0 (.fresh 0 0 led) }
abbrev setF (led : Bool) : Obj := { cls := .type "set", dict := none, data := .set #[(0, .bool false)] 1 (tabF led) }
theorem lay_F (led : Bool) : layNew (.fresh 0 0 led) #[] 0 (.bool false) = (#[(0, .bool false)], tabF led, false, false) := by cases led <;> rfl
theorem full_F (led : Bool) : (tabF led).tooFull = false := by cases led <;> rfl
section
variable {prog : Program} {w : World} {A : Around} {E : Value → Shared → Prop} {s : Shared} {a : Addr} {led : Bool}
theorem hash_F {Q : Int → Shared → Prop} (h : ∀ tk, Q 0 { s with toks := tk }) : wpAny (model prog w) A (pyHash (.bool false)) Q E s := by
  unfold pyHash
  have hv : [Value.bool false].any Value.onHeap = false := rfl
  refine wpAny_bind ?_
  rw [cRoomFor, if_neg (by rw [hv]; exact Bool.false_ne_true)]; refine wpAny_pure ?_
  refine wpAny_bind (wpAny_specialOf (PySem.typeIs_bool s false) F.slot_bool_hash.lookup ?_)
  show wpAny _ _ (if (some (Value.builtin "int.__hash__") == some Value.none) = true then _ else _) Q E s
  rw [if_neg (by decide)]
  refine wpAny_bind (wpAny_specialOf (PySem.typeIs_bool s false) F.slot_bool_hash.lookup ?_)
  show wpAny _ _ (callSpecialIfBoundUnlessNone? (.bool false) "__hash__" _ >>= _) Q E s
  refine wpAny_bind (wpAny_callSpecialIfBoundUnlessNone?_slot (PySem.typeIs_bool s false) F.slot_bool_hash
    (wpAny_call_entry F.slot_bool_hash (PySem.typeIs_bool s false) F.entry_int_hash
      (show wpAny _ _ (do ret (← mkInt (rawHash 0))) _ _ s from wpAny_ret_mkInt ?_) (F.args_int_hash_1 _)))
  show wpAny _ _ (if (decide (-(2 : Int) ^ 63 ≤ rawHash 0) && decide (rawHash 0 < 2 ^ 63)) = true then _ else _) Q E _
  rw [if_pos (by decide)]
  exact wpAny_pure (h _)
theorem eqBool_F {Q : Bool → Shared → Prop} (h : Q true s) : wpAny (model prog w) A (eqBool (.bool false) (.bool false)) Q E s := by
  unfold eqBool
  refine wpAny_holding ?_
  rw [if_pos (by decide)]
  exact wpAny_bind (wpAny_rule (wpAny_pure h))
theorem typeIs_set (ho : s.heap.get? a = some (setF led)) : s.TypeIs (.ref a) "set" := ⟨_, ho, rfl⟩
theorem add_E {Q : Value → Shared → Prop} (ho : s.heap.get? a = some (setE led)) (h : ∀ h' tk, Heap.SameBut a s.heap h' → h'.get? a = some (setF led) → Q .none { s with heap := h', toks := tk }) :
    wpAny (model prog w) A (call (.builtin "set.add") [.ref a, .bool false]) Q E s := by
  refine wpAny_call_entry F.slot_set_add (⟨_, ho, rfl⟩ : s.TypeIs (.ref a) "set") F.entry_set_add ?_ (F.args_set_add_2 _ _)
  unfold Builtin.«set.add» Builtin.Frozenset.oneOther
  simp only [List.isEmpty_nil, bind_assoc]
  unfold Builtin.Frozenset.addrOf setAdd
  refine wpAny_bind (wpAny_pure ?_)
  try dsimp only
  refine wpAny_bind (wpAny_pure ?_)
  try dsimp only
  refine wpAny_bind ?_
  refine wpAny_holding ?_
  refine wpAny_bind (hash_F fun tk => ?_)
  unfold setAddHashed setAddHashedIn
  refine wpAny_holding (wpAny_bind (wpAny_setState_of ho rfl rfl ?_))
  dsimp only
  rw [if_pos (by decide +kernel)]
  unfold setAddByScan
  refine wpAny_bind ?_
  refine wpAny_bind (wpAny_rule ?_)
  refine wpAny_bind (wpAny_of_eq (a := ScanMet.absent) rfl ?_)
  dsimp only
  rw [lay_F]
  dsimp only
  refine wpAny_bind (wpAny_of_eq (a := ()) rfl ?_)
  rw [if_pos rfl]
  refine wpAny_bind (wpAny_of_eq (a := true) rfl ?_)
  simp only [if_true, full_F, Bool.and_false, Bool.false_eq_true, if_false]
  refine wpAny_bind (wpAny_storeSet_of ho rfl ?_ (by rw [sizeLine_eq]; decide))
  refine wpAny_pure ?_
  dsimp only
  refine wpAny_pure ?_
  show wpAny _ _ (ret Value.none) _ _ _
  refine wpAny_pure ⟨_, rfl, h _ _ (Heap.SameBut.update ..) ?_⟩
  exact Heap.get?_update_self _ ho rfl
theorem add_F {Q : Value → Shared → Prop} (ho : s.heap.get? a = some (setF led)) (h : ∀ tk, Q .none { s with toks := tk }) :
    wpAny (model prog w) A (call (.builtin "set.add") [.ref a, .bool false]) Q E s := by
  refine wpAny_call_entry F.slot_set_add (⟨_, ho, rfl⟩ : s.TypeIs (.ref a) "set") F.entry_set_add ?_ (F.args_set_add_2 _ _)
  unfold Builtin.«set.add» Builtin.Frozenset.oneOther
  simp only [List.isEmpty_nil, bind_assoc]
  unfold Builtin.Frozenset.addrOf setAdd
  refine wpAny_bind (wpAny_pure ?_)
  try dsimp only
  refine wpAny_bind (wpAny_pure ?_)
  try dsimp only
  refine wpAny_bind ?_
  refine wpAny_holding ?_
  refine wpAny_bind (hash_F fun tk => ?_)
  unfold setAddHashed setAddHashedIn
  refine wpAny_holding (wpAny_bind (wpAny_setState_of ho rfl (by cases led <;> rfl) ?_))
  dsimp only
  rw [if_pos (by decide +kernel)]
  unfold setAddByScan
  refine wpAny_bind ?_
  refine wpAny_bind (wpAny_rule ?_)
  refine wpAny_bind ?_
  show wpAny _ _ (setScanFrom a (.bool false) 0 true [(0, .bool false)] 0) _ _ _
  unfold setScanFrom
  rw [if_pos (by decide)]
  refine wpAny_bind ?_
  unfold setEpoch
  refine wpAny_bind (wpAny_setState_of ho rfl (by cases led <;> rfl) (wpAny_pure ?_))
  refine wpAny_bind (eqBool_F ?_)
  rw [if_pos (by decide)]
  refine wpAny_pure ?_
  dsimp only
  refine wpAny_pure ?_
  dsimp only
  refine wpAny_pure ?_
  show wpAny _ _ (ret Value.none) _ _ _
  exact wpAny_pure ⟨_, rfl, h tk⟩
end
section facts
theorem slot_setit_next : Slot "set_iterator" "__next__" "set_iterator.__next__" :=
  .of (owner := "set_iterator") (n := "__next__") (by rw [typeLookup_type, builtinLookup_eq_fast]; kernel_rfl) (by decide +kernel) (by decide +kernel) (by decide +kernel)
    (by first | exact .inl (by decide +kernel) | exact .inr (by decide +kernel)) (by rw [isSubtype_type]; kernel_rfl)
theorem entry_setit_next : entryFor table "set_iterator.__next__" = some Builtin.«set_iterator.__next__» := entryFor_of_tree (by kernel_rfl)
theorem owner_setit : Manifest.owners.lookup (String.ofList "set_iterator".toList.reverse.reverse) = some Manifest.sig_set_iterator := by kernel_rfl
theorem args_setit_next (v : Value) : argsOk "set_iterator.__next__" ⟨[v], []⟩ := by
  unfold argsOk; rw [signature?_of (id := "set_iterator.__next__") (n := ['_', '_', 't', 'x', 'e', 'n', '_', '_']) (o := "set_iterator".toList.reverse) (by kernel_rfl) owner_setit]; kernel_rfl
theorem entry_set_iter : entryFor table "set.__iter__" = some Builtin.«frozenset.__iter__» :=
  entryFor_alias (id' := "frozenset.__iter__") (by kernel_rfl) rfl (by decide +kernel) (by kernel_rfl)
end facts
/-- an iterator over {False}, i taken -/
abbrev setIt (a : Addr) (slot i : Int) (src : Value) : Obj := { cls := .type "set_iterator", dict := none, data := .fields #[rawInt slot, rawInt i, src, rawInt 1, rawInt 1], slots := #[] }
section
variable {prog : Program} {w : World} {A : Around} {E : Value → Shared → Prop} {s : Shared} {a : Addr} {led : Bool}
theorem iter_F {Q : Value → Shared → Prop} (ho : s.heap.get? a = some (setF led)) (h : Q (.ref s.heap.objs.size) { s with heap := s.heap.push (setIt a 0 0 (.ref a)) }) : wpAny (model prog w) A (pyIter (.ref a)) Q E s := by
  have hT : s.TypeIs (.ref a) "set" := ⟨_, ho, rfl⟩
  refine wpAny_pyIter_slot hT F.slot_set_iter (wpAny_call_entry F.slot_set_iter hT entry_set_iter ?_ (F.args_set_iter_1 _))
  unfold Builtin.«frozenset.__iter__» Builtin.Frozenset.slot0 slotArgs
  simp only [List.isEmpty_nil, Bool.not_true, Bool.false_eq_true, ↓reduceIte, bind_assoc, List.length_nil, bne_self_eq_false]
  unfold Builtin.Frozenset.addrOf Builtin.Frozenset.sizeOf
  refine wpAny_bind (wpAny_pure ?_)
  try dsimp only
  refine wpAny_bind (wpAny_pure ?_)
  refine wpAny_bind (wpAny_bind (wpAny_setEntries_of ho rfl (by cases led <;> rfl) (wpAny_pure ?_)))
  refine wpAny_bind ?_
  unfold setDrawn
  refine wpAny_bind (wpAny_setState_of ho rfl (by cases led <;> rfl) ?_)
  dsimp only
  unfold setsByText
  refine wpAny_bind (wpAny_bind (wpAny_askSetting (wpAny_pure ?_)))
  refine wpAny_pure ?_
  rw [if_neg (by rw [Bool.and_comm]; exact Bool.false_ne_true)]
  refine wpAny_bind (wpAny_pure ?_)
  refine wpAny_bind ?_
  unfold setEpoch
  refine wpAny_bind (wpAny_setState_of ho rfl (by cases led <;> rfl) (wpAny_pure ?_))
  unfold newFields
  refine wpAny_bind (wpAny_newObj_type ?_)
  refine wpAny_pure ⟨_, rfl, "set_iterator", _, ⟨_, Heap.get?_push_size _ rfl, rfl⟩, slot_setit_next.lookup, h⟩
theorem pick_one (f : Nat → Nat) (x : Int × Value) : pickOrder f #[x] = #[x] := by
  show pickOrder.go f 1 0 [x] #[] = #[x]
  unfold pickOrder.go
  have : f 0 % ([x] : List (Int × Value)).length = 0 := Nat.mod_one _
  rw [this]
  rfl
theorem walk_F {Q : Array (Int × Value) → Shared → Prop} (hbt : w.params.followText "set-order" = true) (ho : s.heap.get? a = some (setF led)) (h : Q #[(0, .bool false)] s) : wpAny (model prog w) A (setWalk a) Q E s := by
  unfold setWalk
  refine wpAny_bind (wpAny_setState_of ho rfl (by cases led <;> rfl) ?_)
  dsimp only
  unfold setsByText
  refine wpAny_bind (wpAny_bind (wpAny_askSetting (wpAny_pure ?_)))
  rw [if_pos (show ({ program := (model prog w).prog, params := (model prog w).w.params } : Setting).params.followText "set-order" = true from hbt)]
  refine wpAny_bind (wpAny_askSetting (wpAny_pure ?_))
  rw [pick_one]
  exact h
theorem next_F {it : Addr} {Q : Option Value → Shared → Prop} (hled : led = !(w.params.followText "set-order")) (ho : s.heap.get? a = some (setF led)) (hi : s.heap.get? it = some (setIt a 0 0 (.ref a))) (hne : @Ne Nat it a)
    (h : ∀ h' k, (k = 0 ∨ (k = 1 ∧ led = true)) → (k = 0 → led = false) → Heap.SameBut it s.heap h' → h'.get? it = some (setIt a k 1 (.ref a)) → Q (some (.bool false)) { s with heap := h' }) : wpAny (model prog w) A (pyNext (.ref it)) Q E s := by
  have hT : s.TypeIs (.ref it) "set_iterator" := ⟨_, hi, rfl⟩
  unfold pyNext
  refine wpAny_bind (wpAny_attempt (wpAny_callSpecial?_slot (name := Str.ofString "__next__") hT slot_setit_next (wpAny_call_entry slot_setit_next hT entry_setit_next ?_ (args_setit_next _))))
  unfold Builtin.«set_iterator.__next__» slotArgs
  simp only [List.isEmpty_nil, Bool.not_true, Bool.false_eq_true, ↓reduceIte, bind_assoc, List.length_nil, bne_self_eq_false]
  refine wpAny_bind (wpAny_pure ?_)
  unfold fieldsOf
  refine wpAny_bind (wpAny_bind (wpAny_load hi ?_))
  refine wpAny_pure ?_
  dsimp only
  refine wpAny_bind (wpAny_setEntries_of ho rfl (by cases led <;> rfl) ?_)
  rw [if_neg (by decide)]
  refine wpAny_bind ?_
  unfold setNext
  refine wpAny_bind (wpAny_setState_of ho rfl (by cases led <;> rfl) ?_)
  dsimp only
  unfold setsByText
  refine wpAny_bind (wpAny_bind (wpAny_askSetting (wpAny_pure ?_)))
  by_cases hbt : w.params.followText "set-order" = true
  · have e : led = false := by rw [hled, hbt]; rfl
    rw [if_pos (show ({ program := (model prog w).prog, params := (model prog w).w.params } : Setting).params.followText "set-order" = true from hbt), if_neg (by decide)]
    refine wpAny_bind (walk_F hbt ho (wpAny_pure ?_))
    show wpAny _ _ (do setField (.ref it) 0 (rawInt 0); setField (.ref it) 1 (rawInt (0 + 1)); ret (Value.bool false)) _ _ _
    refine wpAny_bind (wpAny_setField_rec hi (by simp) fun h₁ hi₁ hs₁ => ?_)
    refine wpAny_bind (wpAny_setField_rec hi₁ (by simp) fun h₂ hi₂ hs₂ => ?_)
    exact wpAny_pure ⟨_, rfl, wpAny_pure (h h₂ 0 (.inl rfl) (fun _ => e) (hs₁.trans hs₂) hi₂)⟩
  · have e : led = true := by rw [hled, Bool.eq_false_iff.mpr hbt]; rfl
    subst e
    rw [if_neg (show ¬ ({ program := (model prog w).prog, params := (model prog w).w.params } : Setting).params.followText "set-order" = true from hbt), if_neg (by exact Bool.false_ne_true)]
    refine wpAny_bind (wpAny_of_eq (a := ()) rfl (wpAny_pure ?_))
    show wpAny _ _ (do setField (.ref it) 0 (rawInt 1); setField (.ref it) 1 (rawInt (0 + 1)); ret (Value.bool false)) _ _ _
    refine wpAny_bind (wpAny_setField_rec hi (by simp) fun h₁ hi₁ hs₁ => ?_)
    refine wpAny_bind (wpAny_setField_rec hi₁ (by simp) fun h₂ hi₂ hs₂ => ?_)
    exact wpAny_pure ⟨_, rfl, wpAny_pure (h h₂ 1 (.inr ⟨rfl, rfl⟩) (fun q => absurd q (by decide)) (hs₁.trans hs₂) hi₂)⟩
theorem done_F {it : Addr} {k : Int} {Q : Option Value → Shared → Prop} (hh : A.handled = none) (hk : k = 0 ∨ (k = 1 ∧ led = true)) (hk0 : k = 0 → led = false) (hled : led = !(w.params.followText "set-order")) (ho : s.heap.get? a = some (setF led)) (hi : s.heap.get? it = some (setIt a k 1 (.ref a)))
    (h : ∀ h', Heap.ExtBut it s.heap h' → Q none { s with heap := h' }) : wpAny (model prog w) A (pyNext (.ref it)) Q E s := by
  have hT : s.TypeIs (.ref it) "set_iterator" := ⟨_, hi, rfl⟩
  unfold pyNext
  refine wpAny_bind (wpAny_attempt (wpAny_callSpecial?_slot (name := Str.ofString "__next__") hT slot_setit_next (wpAny_call_entry slot_setit_next hT entry_setit_next ?_ (args_setit_next _))))
  unfold Builtin.«set_iterator.__next__» slotArgs
  simp only [List.isEmpty_nil, Bool.not_true, Bool.false_eq_true, ↓reduceIte, bind_assoc, List.length_nil, bne_self_eq_false]
  refine wpAny_bind (wpAny_pure ?_)
  unfold fieldsOf
  refine wpAny_bind (wpAny_bind (wpAny_load hi ?_))
  refine wpAny_pure ?_
  dsimp only
  refine wpAny_bind (wpAny_setEntries_of ho rfl (by cases led <;> rfl) ?_)
  rw [if_neg (by decide)]
  refine wpAny_bind ?_
  unfold setNext
  refine wpAny_bind (wpAny_setState_of ho rfl (by cases led <;> rfl) ?_)
  dsimp only
  unfold setsByText
  refine wpAny_bind (wpAny_bind (wpAny_askSetting (wpAny_pure ?_)))
  have fin : wpAny (model prog w) A.in1 (do
      setField (Value.ref it) 2 Value.none
      let __do_lift ← newExc (Value.type "StopIteration") []
      raiseNew __do_lift) (fun fin s' => ∃ v, fin = Fin.done (Flow.ret v) ∧ wpAny (model prog w) A (pure (some v)) Q E s') (fun e s' =>
          wpAny (model prog w) A
            (do
              let __do_lift ← isInstance e (Value.type "StopIteration")
              if __do_lift = true then pure none else throw e)
            Q E s') s := by
    refine wpAny_bind (wpAny_setField_rec hi (by simp) fun h₁ hi₁ hs₁ => ?_)
    refine wpAny_bind ?_
    simp only [newExc, newTuple]
    refine wpAny_bind (wpAny_newObj_type ?_ (by size_fits))
    refine wpAny_bind (m := firstArgMember _ _) (wpAny_of_eq (a := Value.none) (by first | rfl | (simp only [firstArgMember]; rfl)) ?_)
    refine wpAny_newObj_type ?_ (by size_fits)
    simp only [raiseNew]
    refine wpAny_bind (wpAny_handled ?_)
    rw [show A.in1.handled = none from hh]
    refine wpAny_bind (wpAny_pure (wpAny_throw ?_))
    refine wpAny_bind (wpAny_isInstance (T := "StopIteration") (b := true) ⟨_, Heap.get?_push_size _ rfl, rfl⟩ isSubtype_stop ?_)
    exact wpAny_pure (h _ ((hs₁.extBut.push _).push _))
  by_cases hbt : w.params.followText "set-order" = true
  · have e : led = false := by rw [hled, hbt]; rfl
    rw [if_pos (show ({ program := (model prog w).prog, params := (model prog w).w.params } : Setting).params.followText "set-order" = true from hbt), if_neg (by decide)]
    refine wpAny_bind (walk_F hbt ho (wpAny_pure ?_))
    exact fin
  · have e : led = true := by rw [hled, Bool.eq_false_iff.mpr hbt]; rfl
    subst e
    rcases hk with rfl | ⟨rfl, _⟩
    · exact absurd (hk0 rfl) (by decide)
    rw [if_neg (show ¬ ({ program := (model prog w).prog, params := (model prog w).w.params } : Setting).params.followText "set-order" = true from hbt), if_neg (by exact Bool.false_ne_true)]
    refine wpAny_bind (wpAny_of_eq (a := ()) rfl (wpAny_pure ?_))
    exact fin
/-- what a set of one False unpacks to -/
theorem unpack_F {Q : List Value → Shared → Prop} (hh : A.handled = none) (hled : led = !(w.params.followText "set-order")) (ho : s.heap.get? a = some (setF led))
    (h : ∀ h', Heap.ExtBut s.heap.objs.size s.heap h' → Q [.bool false] { s with heap := h' }) : wpAny (model prog w) A (unpackItems (.ref a) 1 none) Q E s := by
  have hT : s.TypeIs (.ref a) "set" := ⟨_, ho, rfl⟩
  have hne : @Ne Nat s.heap.objs.size a := Nat.ne_of_gt (Heap.lt_size ho)
  unfold unpackItems
  refine wpAny_bind ?_
  unfold notIterableAtAll
  refine wpAny_bind (wpAny_specialOf hT F.slot_set_iter.lookup ?_)
  refine wpAny_pure ?_
  simp only [Bool.false_eq_true, if_false]
  refine wpAny_bind (wpAny_holding (iter_F ho ?_))
  refine wpAny_bind (wpAny_holding ?_)
  unfold draw
  refine wpAny_bind (next_F hled (Heap.get?_push_of_some _ ho) (Heap.get?_push_size _ rfl) hne fun h₁ k hk hk0 hs₁ hi₁ => ?_)
  dsimp only
  unfold draw
  refine wpAny_bind (wpAny_holding (wpAny_pure (wpAny_pure ?_)))
  rw [if_neg (by decide)]
  have ho₁ : h₁.get? a = some (setF led) := (hs₁.2 _ (Ne.symm hne)).trans (Heap.get?_push_of_some _ ho)
  refine wpAny_bind (wpAny_holding (done_F hh hk hk0 hled ho₁ hi₁ fun h₂ hs₂ => ?_))
  simp only [Option.isSome_none, Bool.false_eq_true, if_false]
  exact wpAny_pure (h h₂ fun b o hb e => hs₂ b o hb (hs₁.extBut b o hb (Heap.get?_push_of_some _ e)))
/-- the empty set, made -/
theorem newSet_E {Q : Value → Shared → Prop} (h : Q (.ref s.heap.objs.size) { s with heap := s.heap.push (setE (!(w.params.followText "set-order"))) }) : wpAny (model prog w) A (newSet (.type "set")) Q E s := by
  unfold newSet setsByText
  refine wpAny_bind (wpAny_bind (wpAny_askSetting (wpAny_pure ?_)))
  exact wpAny_newObj_type h
end
end Mine
end
section
open PySem PySem.W PyProof.Rows PySem.Calls
set_option maxRecDepth 100000
namespace Mine
theorem compTurn_set (elt target iter : Expr) (scope : Scope) (pos : Pos) (it acc : Value) (env : Env) :
    compTurn (.SetComp elt [⟨target, iter, [], 0⟩] scope pos) 0 it acc env = (standAt iter.pos >>= fun _ => pyNext it >>= fun r => match r with
      | none => pure (.done .next)
      | some v => letOwnedTupleGo target it v >>= fun _ => assign target env v >>= fun _ =>
        (eval elt env >>= fun x => standAt elt.pos >>= fun _ => call (.builtin "set.add") [acc, x] >>= fun _ => pure ()) >>= fun _ =>
          again (.compLoop (.SetComp elt [⟨target, iter, [], 0⟩] scope pos) 0 it acc env)) := by rfl
section
variable {P : Ctx → Prop} {prog : Program} {w : World} {A : Around} {E : Value → Shared → Prop} {R : Result → Shared → Prop} {s : Shared} {env : Env}
theorem compStartS (K : Kept P) {elt target iter : Expr} {scope : Scope} {pos : Pos} {it acc : Value}
    (h0 : codeP P (model prog w) A (.compLoop (.SetComp elt [⟨target, iter, [], 0⟩] scope pos) 0 it acc env) R s)
    (h : wpAny (model prog w) A (pyIter it) (fun it' s' => codeP P (model prog w) A (.compLoop (.SetComp elt [⟨target, iter, [], 0⟩] scope pos) 0 it' acc env) R s') (fun _ _ => False) s) :
    codeP P (model prog w) A (.compStart (.SetComp elt [⟨target, iter, [], 0⟩] scope pos) 0 it acc env) R s := by
  refine codeP_of_tree K ?_
  rw [Around.under_of_weight (A := A) (c := .compStart (.SetComp elt [⟨target, iter, [], 0⟩] scope pos) 0 it acc env) rfl]
  show wpP P _ _ ((compStart (.SetComp elt [⟨target, iter, [], 0⟩] scope pos) 0 it acc env).onRaise (fun x => do noteFrame x env; standAt theWindowsPlace)) _ _ s
  refine wpP_onRaise ?_
  unfold compStart
  show wpP P _ _ (ask >>= _) _ _ s
  refine wpP_bindA (wpAny_askSetting ?_)
  split
  · first
      | exact wpP_bind (wpP_pure (wpP_pure ⟨rfl, rfl, h0⟩))
      | exact wpP_pure ⟨rfl, rfl, h0⟩
  · refine wpP_bindA (wpAny_rule ?_)
    show wpP P _ _ (standAt iter.pos >>= _) _ _ s
    refine wpP_bind (wpP_standAt (wpP_bindA (wpAny_mono h (fun it' s' h' => wpP_pure ⟨rfl, rfl, h'⟩) fun _ _ x => x.elim)))
theorem compLoopS (K : Kept P) {elt target iter : Expr} {scope : Scope} {pos : Pos} {acc : Value} {I : Addr} {fp wr : List Addr} {n : Nat} {Pv : Nat → Value → Prop} {St : Nat → Heap → Prop}
    (W : Walks prog w A I fp wr n Pv St) (J : Nat → Shared → Prop) (hJ : ∀ i s, J i s → St i s.heap)
    (turn : ∀ i s v h' tk, i < n → J i s → Pv i v → St (i + 1) h' → (∀ b o, b ∉ wr → s.heap.get? b = some o → h'.get? b = some o) →
      wpAny (model prog w) A (assign target env v) (fun _ s₂ =>
          wpP P (model prog w) A (eval elt env) (fun x s₄ => wpAny (model prog w) A (call (.builtin "set.add") [acc, x]) (fun _ s₅ => J (i + 1) s₅) (fun _ _ => False) s₄) (fun _ _ => False) s₂) (fun _ _ => False) { s with heap := h', toks := tk })
    (done : ∀ s h' tk, J n s → (∀ b o, b ∉ wr → s.heap.get? b = some o → h'.get? b = some o) → R (.ok .next) { s with heap := h', toks := tk })
    (h0 : J 0 s) (ht : ∀ v, letOwnedTupleGo target (.ref I) v = pure () := by intro _; rfl) :
    codeP P (model prog w) A (.compLoop (.SetComp elt [⟨target, iter, [], 0⟩] scope pos) 0 (.ref I) acc env) R s := by
  refine codeP_loop K rfl rfl (fun k s' => ∃ i, J i s' ∧ i ≤ n ∧ k = n + 1 - i) ?_ (n + 1) ⟨0, h0, Nat.zero_le _, rfl⟩
  rintro k s' ⟨i, hi, hin, rfl⟩
  rw [Around.under_of_weight (A := A) (c := .compLoop (.SetComp elt [⟨target, iter, [], 0⟩] scope pos) 0 (.ref I) acc env) rfl]
  show wpP P _ A ((compTurn (.SetComp elt [⟨target, iter, [], 0⟩] scope pos) 0 (.ref I) acc env).onRaise (fun x => do noteFrame x env; theTreesLotGoes x)) _ _ s'
  refine wpP_onRaise ?_
  rw [compTurn_set]
  refine wpP_bind (wpP_standAt (wpP_bind ?_))
  by_cases hlt : i < n
  · refine .of_any (W.item i s' _ _ hlt (hJ _ _ hi) fun v h' tk hv st hk => ?_)
    dsimp only
    refine wpP_bindA (wpAny_of_eq (ht v) ?_)
    refine wpP_bindA (wpAny_mono (turn i s' v h' tk hlt hi hv st hk) (fun _ s₂ h₂ => wpP_bind (wpP_bind (wpP_mono h₂ (fun x s₃ h₃ => ?_) fun _ _ x => x.elim))) fun _ _ x => x.elim)
    refine wpP_bind (wpP_standAt (wpP_bindA (wpAny_mono h₃ (fun _ s₅ h₅ => wpP_pure (wpP_pure (.inl ⟨rfl, _, by omega, i + 1, h₅, hlt, rfl⟩))) fun _ _ x => x.elim)))
  · obtain rfl : i = n := by omega
    refine .of_any (W.done s' _ _ (hJ _ _ hi) fun h' tk hk => ?_)
    exact wpP_pure (done s' h' tk hi hk)
end
/-- the set, none or some turns on -/
noncomputable def sOb (led : Bool) (i : Nat) : Obj := if i = 0 then setE led else setF led
theorem sOb_pos {led : Bool} {i : Nat} (h : i ≠ 0) : sOb led i = setF led := if_neg h
section
variable {prog : Program} {w : World} {A : Around} {E : Value → Shared → Prop} {s : Shared} {led : Bool} {a : Addr}
theorem add_O {i : Nat} {Q : Value → Shared → Prop} (ho : s.heap.get? a = some (sOb led i)) (h : ∀ h' tk, Heap.SameBut a s.heap h' → h'.get? a = some (sOb led (i + 1)) → Q .none { s with heap := h', toks := tk }) :
    wpAny (model prog w) A (call (.builtin "set.add") [.ref a, .bool false]) Q E s := by
  rw [sOb_pos (Nat.succ_ne_zero i)] at h
  by_cases hi : i = 0
  · subst hi; exact add_E ho h
  · rw [sOb_pos hi] at ho
    exact add_F ho fun tk => h s.heap tk (Heap.SameBut.refl a s.heap) ho
end
section
variable {P : Ctx → Prop} {prog : Program} {w : World} {A : Around} {E : Value → Shared → Prop} {s : Shared} {env : Env} {h₀ : Heap} {L : Addr} {m : Str → Option Value} {news : List (Addr × Obj)}
theorem block_S (K : Kept P) {elt iter : Expr} {x : Str} {px : Pos} {scope : Scope} {cl : List (Str × Addr)} {pos : Pos} {I : Addr} {keep : List (Addr × Obj)} {n : Nat} {Pv : Nat → Value → Prop} {St : Nat → Heap → Prop}
    {RR : Value → Addr → Result → Shared → Prop}
    (W : Walks prog w A I (I :: keep.map (·.1)) [I] n Pv St) (hn0 : n ≠ 0) (hIo : ∀ i h, St i h → ∃ o, h.get? I = some o)
    (hcell : ∀ y ∈ scope.names, y.2 ≠ .cell) (hkind : scope.kind = .function) (hx : scope.names.lookup x = some .local) (hst : St 0 s.heap)
    (F : Fr h₀ L s.heap m) (N : News h₀ L s.heap news) (hIL : L ≠ I) (hI₀ : h₀.get? I = none) (off : ∀ p ∈ news, p.1 ≠ I) (hkeep : ∀ p ∈ keep, p ∈ news)
    (turn : ∀ i v h₁ tk₁ oI C oC D oD m₂, i < n → Pv i v → Off3 I C D news → (@Ne Nat I C ∧ @Ne Nat I D ∧ @Ne Nat C D) → LCg.NsObj oC m₂ → m₂ x = some v → Fr h₀ L h₁ m → News h₀ L h₁ ((I, oI) :: (C, oC) :: (D, oD) :: news) →
      wpP P (model prog w) A (eval elt (compEnvC scope cl C env)) (fun y s' => ∃ h' tk', y = .bool false ∧ s' = { s with heap := h', toks := tk' } ∧ Fr h₀ L h' m ∧ News h₀ L h' ((I, oI) :: (C, oC) :: (D, oD) :: news)) (fun _ _ => False) { s with heap := h₁, toks := tk₁ })
    (hRR : ∀ D C h tk m', Fr h₀ L h m → News h₀ L h ((D, setF (!(w.params.followText "set-order"))) :: news) → (∀ p ∈ news, p.1 ≠ D ∧ p.1 ≠ C) → h.Ns C m' → h₀.get? C = none → h₀.get? D = none → C ≠ L → D ≠ L → C ≠ D → RR (.ref D) C (.ok .next) { s with heap := h, toks := tk }) :
    wpAny (model prog w) A (newSet (.type "set")) (fun acc s₃ => wpAny (model prog w) A (newFunctionEnv scope env.globals cl [] env.qual none .none (some env)) (fun cenv s₄ =>
      codeP P (model prog w) A (.compStart (.SetComp elt [⟨.Name x px, iter, [], 0⟩] scope pos) 0 (.ref I) acc { cenv with scope := relabel scope env }) (RR acc cenv.locals) s₄) E s₃) E s := by
  generalize hled : (!(w.params.followText "set-order")) = led at hRR
  refine newSet_E (wpAny_newFunctionEnv hcell (by intro y hy; simp at hy) (fun h₁ hns₁ hsb₁ => ?_) hkind)
  rw [hled] at hns₁ hsb₁ ⊢
  dsimp only at hns₁ hsb₁ ⊢
  generalize hH2 : s.heap.push (setE led) = H2 at hns₁ hsb₁ ⊢
  have hC : H2.objs.size = s.heap.objs.size + 1 := by rw [← hH2, Heap.size_push]
  obtain ⟨D, hD⟩ : ∃ D, D = s.heap.objs.size := ⟨_, rfl⟩
  obtain ⟨C, hCe⟩ : ∃ C, C = H2.objs.size := ⟨_, rfl⟩
  rw [← hD] at hC ⊢
  rw [← hCe] at hC hns₁ hsb₁ ⊢
  have fresh : ∀ a, D ≤ a → s.heap.get? a = none := fun a ha => by
    cases e : s.heap.get? a with
    | none => rfl
    | some o' => exact absurd (Heap.lt_size e) (Nat.not_lt.mpr (hD ▸ ha))
  have fresh₀ : ∀ a, D ≤ a → h₀.get? a = none := fun a ha => by
    cases e : h₀.get? a with
    | none => rfl
    | some o' => have := F.keep a o' e; rw [fresh a ha] at this; cases this
  have below : ∀ b o, s.heap.get? b = some o → b ≠ C ∧ b ≠ D := fun b o e => by
    have h1 := Heap.lt_size e
    rw [← hD] at h1
    have h2 : @LT.lt Nat _ b D := h1
    have h3 : @Eq Nat C (D + 1) := hC
    show @Ne Nat b C ∧ @Ne Nat b D
    omega
  have old : ∀ b o, s.heap.get? b = some o → h₁.get? b = some o := fun b o e => hsb₁.extBut b o (below b o e).1 (Heap.get?_push_of_some _ (hH2 ▸ Heap.get?_push_of_some _ e))
  have hacc : h₁.get? D = some (sOb led 0) := hsb₁.extBut _ _ (by show @Ne Nat D C; have h3 : @Eq Nat C (D + 1) := hC; omega) (Heap.get?_push_of_some _ (hH2 ▸ hD ▸ Heap.get?_push_size _ rfl))
  obtain ⟨oI₀, hoI₀⟩ := hIo _ _ hst
  have hIC := (below _ _ hoI₀).1
  have hID := (below _ _ hoI₀).2
  have hCD : C ≠ D := by show @Ne Nat C D; have h3 : @Eq Nat C (D + 1) := hC; omega
  obtain ⟨oL, _, _, hoL, _⟩ := F.ns
  have hCL : C ≠ L := Ne.symm (below _ _ hoL).1
  have hDL : D ≠ L := Ne.symm (below _ _ hoL).2
  have hC₀ : h₀.get? C = none := fresh₀ _ (by show @LE.le Nat _ D C; have h3 : @Eq Nat C (D + 1) := hC; omega)
  have hD₀ : h₀.get? D = none := fresh₀ _ (Nat.le_refl _)
  have hst₁ : St 0 h₁ := W.frame _ _ _ hst fun b hb o e => old b o e
  have off₀ : Off3 I C D news := fun p hp => ⟨off p hp, (below _ _ (N p hp).1).1, (below _ _ (N p hp).1).2⟩
  have loop : codeP P (model prog w) A (.compLoop (.SetComp elt [⟨.Name x px, iter, [], 0⟩] scope pos) 0 (.ref I) (.ref D) (compEnvC scope cl C env)) (RR (.ref D) C) { s with heap := h₁, toks := s.toks + ([] : List (Str × Value)).length } := by
    refine compLoopS K W (fun i s' => ∃ h' tk m', s' = { s with heap := h', toks := tk } ∧ St i h' ∧ Fr h₀ L h' m ∧ h'.Ns C m' ∧ News h₀ L h' ((D, sOb led i) :: news) ∧ i ≤ n)
      (fun i s' ⟨h', tk, m', e, st, _⟩ => by subst e; exact st) ?_ ?_
      ⟨h₁, _, _, rfl, hst₁, F.keeps old, hns₁, fun p hp => ?_, Nat.zero_le _⟩
    · rintro i s' v h₂ tk₂ hlt ⟨h', tk, m', rfl, st, F', hn', N', hin⟩ hv st₂ hk
      have F₂ : Fr h₀ L h₂ m := LCg.fr_but F' hk hIL hI₀
      have N₂ : News h₀ L h₂ ((D, sOb led i) :: news) := LCg.news_but N' hk fun p hp => by
        rcases List.mem_cons.mp hp with rfl | hp
        · exact Ne.symm hID
        · exact (off₀ p hp).1
      refine wpAny_assign_Name (wpAny_storeName_local (lookup_relabel_local hx) (hn'.at' fun o e => hk _ o (by simpa using Ne.symm hIC) e) (fun h₃ hn₃ hs₃ => ?_) (by simp [compEnvC, relabel, hkind]))
      have st₃ : St (i + 1) h₃ := W.frame _ _ _ st₂ fun b hb o e => hs₃.extBut b o (fun q => by
        have q' : b = C := q
        rcases List.mem_cons.mp hb with hb | hb
        · exact hIC (hb ▸ q')
        · obtain ⟨p, hp, rfl⟩ := List.mem_map.mp hb
          exact (off₀ p (hkeep p hp)).2.1 q') e
      obtain ⟨oI, heI⟩ := hIo _ _ st₃
      obtain ⟨oC, heC, hoC⟩ := LCg.ns_obj hn₃
      have F₃ : Fr h₀ L h₃ m := F₂.change hs₃ hCL hC₀
      have N₃ : News h₀ L h₃ ((I, oI) :: (C, oC) :: (D, sOb led i) :: news) := fun p hp => by
        rcases List.mem_cons.mp hp with rfl | hp
        · exact ⟨heI, Ne.symm hIL, hI₀⟩
        · rcases List.mem_cons.mp hp with rfl | hp
          · exact ⟨heC, hCL, hC₀⟩
          · have z := N₂ p hp
            refine ⟨hs₃.extBut _ _ ?_ z.1, z.2⟩
            rcases List.mem_cons.mp hp with rfl | hp
            · exact Ne.symm hCD
            · exact (off₀ p hp).2.1
      refine wpP_mono (turn i v h₃ _ oI C oC D _ _ hlt hv off₀ ⟨hIC, hID, hCD⟩ hoC (by simp) F₃ N₃) (fun y s₅ h₅ => ?_) fun _ _ x => x
      obtain ⟨h₅, tk₅, rfl, rfl, F₅, N₅⟩ := h₅
      have zI := (N₅ (I, oI) List.mem_cons_self).1
      have zC := (N₅ (C, oC) (List.mem_cons_of_mem _ List.mem_cons_self)).1
      have zD := N₅ (D, sOb led i) (List.mem_cons_of_mem _ (List.mem_cons_of_mem _ List.mem_cons_self))
      refine add_O zD.1 fun h₆ tk₆ hs₆ hD₆ => ?_
      have k6 : ∀ b o, b ≠ D → h₅.get? b = some o → h₆.get? b = some o := fun b o hb e => (hs₆.2 b hb).trans e
      refine ⟨h₆, tk₆, _, rfl, ?_, F₅.change hs₆ hDL hD₀, hoC.ns (k6 _ _ hCD zC), fun p hp => ?_, hlt⟩
      · refine W.frame _ _ _ st₃ fun b hb o e => ?_
        rcases List.mem_cons.mp hb with hb | hb
        · subst hb
          rw [heI] at e; cases e
          exact k6 _ _ hID zI
        · obtain ⟨p, hp, rfl⟩ := List.mem_map.mp hb
          have h1 := (N₃ p (List.mem_cons_of_mem _ (List.mem_cons_of_mem _ (List.mem_cons_of_mem _ (hkeep p hp))))).1
          have h2 := (N₅ p (List.mem_cons_of_mem _ (List.mem_cons_of_mem _ (List.mem_cons_of_mem _ (hkeep p hp))))).1
          rw [h1] at e; cases e
          exact k6 _ _ (off₀ p (hkeep p hp)).2.2 h2
      · rcases List.mem_cons.mp hp with rfl | hp
        · exact ⟨hD₆, hDL, hD₀⟩
        · have z := N₅ p (List.mem_cons_of_mem _ (List.mem_cons_of_mem _ (List.mem_cons_of_mem _ hp)))
          exact ⟨k6 _ _ (off₀ p hp).2.2 z.1, z.2⟩
    · rintro s' h₂ tk₂ ⟨h', tk, m', rfl, st, F', hn', N', hin⟩ hk
      rw [sOb_pos hn0] at N'
      refine hRR D C h₂ tk₂ m' (LCg.fr_but F' hk hIL hI₀) (LCg.news_but N' hk fun p hp => by
        rcases List.mem_cons.mp hp with rfl | hp
        · exact Ne.symm hID
        · exact (off₀ p hp).1) (fun p hp => ⟨(off₀ p hp).2.2, (off₀ p hp).2.1⟩) (hn'.at' fun o e => hk _ o (by simpa using Ne.symm hIC) e) hC₀ hD₀ hCL hDL hCD
    · rcases List.mem_cons.mp hp with rfl | hp
      · exact ⟨hacc, hDL, hD₀⟩
      · exact ⟨old _ _ (N p hp).1, (N p hp).2⟩
  exact compStartS K loop (W.self 0 _ _ _ hst₁ loop)
theorem unpack_L {a : Addr} {led : Bool} {Q : List Value → Shared → Prop} (hh : A.handled = none) (hled : led = !(w.params.followText "set-order")) (F : Fr h₀ L s.heap m) (N : News h₀ L s.heap news) (hm : (a, setF led) ∈ news)
    (h : ∀ h', Fr h₀ L h' m → News h₀ L h' news → Q [.bool false] { s with heap := h' }) : wpAny (model prog w) A (unpackItems (.ref a) 1 none) Q E s := by
  refine unpack_F hh hled (N _ hm).1 fun h' he => ?_
  have up : ∀ b o, s.heap.get? b = some o → h'.get? b = some o := fun b o e => he b o (Nat.ne_of_lt (Heap.lt_size e)) e
  exact h h' (F.keeps up) (N.grown up)
theorem assign_set1 {a : Addr} {led : Bool} {x : Str} {px : Pos} {k} {pos : Pos} {Q : Unit → Shared → Prop} (hh : A.handled = none) (hled : led = !(w.params.followText "set-order")) (F : Fr h₀ L s.heap m) (N : News h₀ L s.heap news) (hm : (a, setF led) ∈ news)
    (h : ∀ h', Fr h₀ L h' m → News h₀ L h' news → wpAny (model prog w) A (storeName env x (.bool false)) Q E { s with heap := h' }) : wpAny (model prog w) A (assign (.Tuple [.Name x px] k pos) env (.ref a)) Q E s := by
  show wpAny _ A (do standAt pos; unpack (.ref a) [(false, assign (.Name x px) env)]) Q E s
  refine wpAny_bind (wpAny_standAt ?_)
  unfold unpack
  refine wpAny_bind (wpAny_holding (unpack_L hh hled F N hm fun h' F' N' => ?_))
  show wpAny _ _ (assignInOrder [assign (.Name x px) env] [.bool false]) _ _ _
  unfold assignInOrder
  refine wpAny_bind (wpAny_holding (assign_Name (wpAny_mono (h h' F' N') (fun _ _ q => wpAny_pure q) fun _ _ q => q)))
/-- what an element of the set leaves -/
noncomputable def SEnd (h₀ : Heap) (L : Addr) (m : Str → Option Value) (s : Shared) (nw : List (Addr × Obj)) (y : Value) (s' : Shared) : Prop :=
  ∃ h' tk', y = .bool false ∧ s' = { s with heap := h', toks := tk' } ∧ Fr h₀ L h' m ∧ News h₀ L h' nw
theorem SEnd.intro {nw : List (Addr × Obj)} {h' : Heap} {tk' : Nat} {y : Value} (e : y = .bool false) (F : Fr h₀ L h' m) (N : News h₀ L h' nw) : SEnd h₀ L m s nw y { s with heap := h', toks := tk' } := ⟨h', tk', e, rfl, F, N⟩
/-- what is left of a set comprehension when its source has been evaluated -/
noncomputable def SGoal (P : Ctx → Prop) (prog : Program) (w : World) (A : Around) (E : Value → Shared → Prop) (Q : Value → Shared → Prop) (e : Expr) (scope : Scope) (cl : List (Str × Addr)) (env : Env) (xv : Value) (s₁ : Shared) : Prop :=
  wpAny (model prog w) A (pyIter xv) (fun it s₂ => wpAny (model prog w) A (newSet (.type "set")) (fun acc s₃ =>
      wpAny (model prog w) A (newFunctionEnv scope env.globals cl [] env.qual none .none (some env)) (fun cenv s₄ =>
        codeP P (model prog w) A (.compStart e 0 it acc { cenv with scope := relabel scope env }) (CPost (model prog w) A E none Q acc cenv.locals) s₄) E s₃) E s₂) E s₁
theorem eval_SC (K : Kept P) {elt iter : Expr} {x : Str} {px : Pos} {scope : Scope} {cl : List (Str × Addr)} {pos : Pos} {Q : Value → Shared → Prop} (hclos : closureFor scope env = pure cl) (hkind : scope.kind = .function) (hnames : ∀ x ∈ scope.names, x.2 = .local → scope.names.lookup x.1 = some .local)
    (h : wpP P (model prog w) A (eval iter env) (SGoal P prog w A E Q (.SetComp elt [⟨.Name x px, iter, [], 0⟩] scope pos) scope cl env) E s)
    (hs : ∀ x, foldedSetIterable iter env x = pure x := by intro _; rfl) :
    wpP P (model prog w) A (eval (.SetComp elt [⟨.Name x px, iter, [], 0⟩] scope pos) env) Q E s := by
  rw [arm_eval_SetComp]
  exact compP K rfl hs hclos hkind hnames h
theorem comp_setF (K : Kept P) {elt iter : Expr} {x : Str} {px : Pos} {scope : Scope} {cl : List (Str × Addr)} {pos : Pos} {Q : Value → Shared → Prop} {a : Addr} {vs : List Value} {k : Nat} (hh : A.handled = none) (hcell : ∀ y ∈ scope.names, y.2 ≠ .cell) (hkind : scope.kind = .function) (hx : scope.names.lookup x = some .local)
    (F : Fr h₀ L s.heap m) (N : News h₀ L s.heap news) (hm : (a, tupObj vs k) ∈ news) (hsz : vs.length ≠ 0)
    (turn : ∀ v ∈ vs, ∀ h₁ tk₁ I oI C oC D oD m₂, Off3 I C D news → (@Ne Nat I C ∧ @Ne Nat I D ∧ @Ne Nat C D) → LCg.NsObj oC m₂ → m₂ x = some v → Fr h₀ L h₁ m → News h₀ L h₁ ((I, oI) :: (C, oC) :: (D, oD) :: news) →
      wpP P (model prog w) A (eval elt (compEnvC scope cl C env)) (SEnd h₀ L m s ((I, oI) :: (C, oC) :: (D, oD) :: news)) (fun _ _ => False) { s with heap := h₁, toks := tk₁ })
    (fin : ∀ D h tk, Fr h₀ L h m → News h₀ L h ((D, setF (!(w.params.followText "set-order"))) :: news) → (∀ p ∈ news, p.1 ≠ D) → Q (.ref D) { s with heap := h, toks := tk }) :
    SGoal P prog w A E Q (.SetComp elt [⟨.Name x px, iter, [], 0⟩] scope pos) scope cl env (.ref a) s := by
  have hT : s.heap.IsTuple a vs.toArray := ⟨_, (N _ hm).1, rfl, _, rfl⟩
  have hlt : a < s.heap.objs.size := Heap.lt_size (N _ hm).1
  refine wpAny_pyIter_tuple hT ?_
  have up : ∀ b o, s.heap.get? b = some o → (s.heap.push { cls := .type "tuple_iterator", data := .fields #[.ref a, .int 0 0] }).get? b = some o := fun b o e => Heap.get?_push_of_some _ e
  obtain ⟨f1, f2⟩ := fresh_I F
  refine block_S (s := { s with heap := s.heap.push { cls := .type "tuple_iterator", data := .fields #[.ref a, .int 0 0] } }) K (keep := [(a, tupObj vs k)]) (Walks.tuple hh s.heap.objs.size a (Nat.ne_of_lt hlt) vs.toArray) (by simpa using hsz)
    (fun i h st => by obtain ⟨o, e, _⟩ := st.1; exact ⟨o, e⟩) hcell hkind hx ⟨⟨_, Heap.get?_push_size _ rfl, rfl, rfl⟩, hT.at fun o e => up _ _ e⟩ (F.keeps up) (N.grown up) f1 f2 (fun p hp => Nat.ne_of_lt (Heap.lt_size (N p hp).1)) (fun p hp => by rw [List.mem_singleton.mp hp]; exact hm)
    (fun i v h₁ tk₁ oI C oC D oD m₂ _ hv off ne hoC hm₂ F₁ N₁ => turn v (List.mem_of_getElem? (by simpa using hv)) h₁ tk₁ _ oI C oC D oD m₂ off ne hoC hm₂ F₁ N₁) ?_
  intro D C g tk m' F' N' off hn hC₀ hD₀ hCL hDL hCD
  refine ⟨m', hn, fun h'' hs'' => fin D h'' tk (F'.change hs'' hCL hC₀) (fun p hp => ?_) fun p hp => (off p hp).1⟩
  refine ⟨hs''.extBut _ _ ?_ (N' p hp).1, (N' p hp).2⟩
  rcases List.mem_cons.mp hp with rfl | hp
  · exact Ne.symm hCD
  · exact (off p hp).2
end
end Mine
end
section
open PySem PySem.W PyProof.Rows PySem.Calls
set_option maxRecDepth 100000
namespace Mine
section
variable {P : Ctx → Prop} {prog : Program} {w : World} {A : Around} {E : Value → Shared → Prop} {s : Shared} {env : Env}
theorem for_walkU (K : Kept P) {elts : List Expr} {kt} {pt : Pos} {body : List Stmt} {I : Addr} {fp wr : List Addr} {n : Nat} {Pt : Nat → Array Value → Prop} {St : Nat → Heap → Prop} {Mid : Nat → Addr → Heap → Prop} {R : Result → Shared → Prop}
    (W : WalksU prog w A I fp wr n Pt St Mid) (J : Nat → Shared → Prop) (hJ : ∀ i s, J i s → St i s.heap)
    (turn : ∀ i s T vals h' tk, i < n → J i s → Pt i vals → h'.IsTuple T vals → St (i + 1) h' → (∀ b o, b ∉ wr → s.heap.get? b = some o → h'.get? b = some o) →
      wpAny (model prog w) A (assign (.Tuple elts kt pt) env (.ref T)) (fun _ s₂ => wpP P (model prog w) A (execs body env) (fun f s₃ => match f with
        | .next | .cont => J (i + 1) s₃
        | .brk => R (.ok .next) s₃
        | .ret v => R (.ok (.ret v)) s₃) (fun _ _ => False) s₂) (fun _ _ => False) { s with heap := h', toks := tk })
    (done : ∀ s h' tk, J n s → (∀ b o, b ∉ wr → s.heap.get? b = some o → h'.get? b = some o) → R (.ok .next) { s with heap := h', toks := tk })
    (h0 : J 0 s) :
    codeP P (model prog w) A (.forLoop (.Tuple elts kt pt) (.ref I) body [] env) R s := by
  refine codeP_loop K rfl rfl (fun k s' => ∃ i, J i s' ∧ i ≤ n ∧ k = n + 1 - i) ?_ (n + 1) ⟨0, h0, Nat.zero_le _, rfl⟩
  rintro k s' ⟨i, hi, hin, rfl⟩
  rw [Around.under_of_weight (A := A) (c := .forLoop (.Tuple elts kt pt) (.ref I) body [] env) rfl]
  show wpP P _ A ((forTurn (.Tuple elts kt pt) (.ref I) body [] env).onRaise (fun x => do noteFrame x env; theTreesLotGoes x)) _ _ s'
  refine wpP_onRaise ?_
  unfold forTurn
  refine wpP_bind (wpP_standAt (wpP_bind (wpP_onRaise ?_)))
  by_cases hlt : i < n
  · refine .of_any (W.item i s' _ _ hlt (hJ _ _ hi) fun T vals h' tk hv hT hM hk => ?_)
    dsimp only
    refine wpP_bindA (W.go elts kt pt i T _ _ _ hM fun h'' st hk' => ?_)
    have hT'' : h''.IsTuple T vals := by
      obtain ⟨o, ho, r⟩ := hT
      exact ⟨o, hk' T o (W.apart _ _ _ hM) ho, r⟩
    refine wpP_bindA (wpAny_mono (turn i s' T vals h'' tk hlt hi hv hT'' st fun b o hb e => hk' b o hb (hk b o hb e)) (fun _ s₂ h₂ => wpP_bind (wpP_mono h₂ (fun f s₃ h₃ => ?_) fun _ _ x => x.elim)) fun _ _ x => x.elim)
    cases f with
    | next => exact wpP_pure (.inl ⟨rfl, _, by omega, i + 1, h₃, hlt, rfl⟩)
    | cont => exact wpP_pure (.inl ⟨rfl, _, by omega, i + 1, h₃, hlt, rfl⟩)
    | brk => exact wpP_pure h₃
    | ret v => exact wpP_pure h₃
  · obtain rfl : i = n := by omega
    refine .of_any (W.done s' _ _ (hJ _ _ hi) fun h' tk hk => ?_)
    refine wpP_pure (.inr ⟨rfl, rfl, ?_⟩)
    refine codeP_of_tree K ?_
    rw [Around.under_of_weight (A := A) (c := .block [] env) rfl]
    show wpP P _ A ((execs [] env).onRaise (fun x => do noteFrame x env; theTreesLotGoes x) >>= fun f => pure (PySem.Fin.done f)) _ _ _
    refine wpP_bind (wpP_onRaise (wpP_pure (wpP_pure (done s' h' tk hi hk))))
end
/-- an enumerate object over a list has been made -/
noncomputable def EnumAt (h₀ : Heap) (L : Addr) (m : Str → Option Value) (news : List (Addr × Obj)) (s : Shared) (a : Addr) (x : Value) (s₁ : Shared) : Prop :=
  ∃ e it h tk, x = .ref e ∧ s₁ = { s with heap := h, toks := tk } ∧ IsEnum h e it 0 .none ∧ h.IsListIter it a 0 ∧ @Ne Nat e it ∧ (e ≠ L ∧ h₀.get? e = none) ∧ (it ≠ L ∧ h₀.get? it = none) ∧ (∀ p ∈ news, p.1 ≠ e ∧ p.1 ≠ it) ∧ Fr h₀ L h m ∧ News h₀ L h news
/-- what a turn over an enumerate leaves -/
noncomputable def TurnEnd2 (h₀ : Heap) (L : Addr) (s : Shared) (e it : Addr) (oe oit : Obj) (J : (Str → Option Value) → List (Addr × Obj) → Prop) (s₃ : Shared) : Prop :=
  ∃ h' tk' m' news', s₃ = { s with heap := h', toks := tk' } ∧ Fr h₀ L h' m' ∧ News h₀ L h' ((e, oe) :: (it, oit) :: news') ∧ (∀ p ∈ news', p.1 ≠ e ∧ p.1 ≠ it) ∧ J m' news'
theorem TurnEnd2.intro {h₀ : Heap} {L : Addr} {s : Shared} {e it : Addr} {oe oit : Obj} {J : (Str → Option Value) → List (Addr × Obj) → Prop} {h' : Heap} {tk' : Nat} {m' : Str → Option Value} {news' : List (Addr × Obj)}
    (F : Fr h₀ L h' m') (N : News h₀ L h' ((e, oe) :: (it, oit) :: news')) (off : ∀ p ∈ news', p.1 ≠ e ∧ p.1 ≠ it) (hJ : J m' news') : TurnEnd2 h₀ L s e it oe oit J { s with heap := h', toks := tk' } :=
  ⟨h', tk', m', news', rfl, F, N, off, hJ⟩
section
variable {P : Ctx → Prop} {prog : Program} {w : World} {A : Around} {E : Value → Shared → Prop} {s : Shared} {env : Env} {h₀ : Heap} {L : Addr} {m : Str → Option Value} {news : List (Addr × Obj)} {iter : Expr} {body : List Stmt} {pos : Pos} {Q : Flow → Shared → Prop}
theorem call_enum_K {a : Addr} {vs : List Value} {n : Nat} {Q : Value → Shared → Prop} (F : Fr h₀ L s.heap m) (N : News h₀ L s.heap news) (hm : (a, listOf vs.toArray n) ∈ news)
    (h : ∀ e h', EnumAt h₀ L m news s a (.ref e) { s with heap := h' } → Q (.ref e) { s with heap := h' }) : wpAny (model prog w) A (call (.type "enumerate") [.ref a]) Q E s := by
  refine call_enumerate_list (isL N hm) fun h' he hi hz hk => h _ h' ⟨_, s.heap.objs.size, h', s.toks, rfl, rfl, he, hi, Nat.succ_ne_self _, ?_, ?_, fun p hp => ?_, F.keeps hk, N.grown hk⟩
  · have f := fresh_I F
    exact ⟨Nat.ne_of_gt (Nat.lt_succ_of_lt F.ns.lt), by
      cases q : h₀.get? (s.heap.objs.size + 1) with
      | none => rfl
      | some o => exact absurd (Nat.lt_of_succ_lt (Heap.lt_size (F.keep _ _ q))) (Nat.lt_irrefl _)⟩
  · have f := fresh_I F
    exact ⟨Ne.symm f.1, f.2⟩
  · have := Heap.lt_size (N p hp).1
    exact ⟨Nat.ne_of_lt (Nat.lt_succ_of_lt this), Nat.ne_of_lt this⟩
theorem For_enum (K : Kept P) {xi xc : Str} {pi pc : Pos} {kt} {pt : Pos} {a : Addr} {vs : List Value} {k : Nat} (hh : A.handled = none) (hLe : env.locals = L) (hxi : env.kindOf xi = some .local) (hxc : env.kindOf xc = some .local)
    (hpk : (env.scope.kind == .class || (env.scope.kind == .module && env.locals != env.globals)) = false)
    (N₀ : News h₀ L s.heap news) (hm : (a, listOf vs.toArray k) ∈ news)
    (hx : wpAny (model prog w) A (eval iter env) (EnumAt h₀ L m news s a) E s)
    (J : Nat → (Str → Option Value) → List (Addr × Obj) → Prop) (hkeep : ∀ i m nw, J i m nw → (a, listOf vs.toArray k) ∈ nw) (h0 : J 0 m news)
    (turn : ∀ i v t m₁ news₁ h₁ tk₁ e it oe oit, vs[i]? = some v → J i m₁ news₁ → (∀ p ∈ news₁, p.1 ≠ e ∧ p.1 ≠ it) → Fr h₀ L h₁ (fun y => if y = xc then some v else if y = xi then some (.int i t) else m₁ y) → News h₀ L h₁ ((e, oe) :: (it, oit) :: news₁) →
      wpP P (model prog w) A (execs body env) (fun f s₃ => match f with
        | .next | .cont => TurnEnd2 h₀ L s e it oe oit (J (i + 1)) s₃
        | .brk => Q .next s₃
        | .ret v => Q (.ret v) s₃) (fun _ _ => False) { s with heap := h₁, toks := tk₁ })
    (fin : ∀ h' tk m' news', Fr h₀ L h' m' → News h₀ L h' news' → J vs.length m' news' → Q .next { s with heap := h', toks := tk })
    (hs : ∀ x, foldedSetIterable iter env x = pure x := by intro _; rfl) :
    wpP P (model prog w) A (exec (.For (.Tuple [.Name xi pi, .Name xc pc] kt pt) iter body [] pos) env) Q E s := by
  subst hLe
  refine For_walk K (wpAny_mono hx (fun x s₁ hx => ?_) fun _ _ x => x) hs
  obtain ⟨e, it, h, tk, rfl, rfl, he, hi, hei, ⟨heL, he₀⟩, ⟨hiL, hi₀⟩, hoff, F, N⟩ := hx
  refine wpAny_pyIter_enum he ?_
  have hae := (hoff _ hm).1
  have hai := (hoff _ hm).2
  have next : ∀ {h₁ h₂ : Heap} {m₁ : Str → Option Value} {nw : List (Addr × Obj)}, Fr h₀ env.locals h₁ m₁ → News h₀ env.locals h₁ nw → (∀ p ∈ nw, p.1 ≠ e ∧ p.1 ≠ it) → (∀ b o, b ∉ [e, it] → h₁.get? b = some o → h₂.get? b = some o) → Fr h₀ env.locals h₂ m₁ ∧ News h₀ env.locals h₂ nw := fun F N off kk =>
    ⟨⟨F.ns.at' fun o x => kk _ o (by simpa using ⟨Ne.symm heL, Ne.symm hiL⟩) x, fun b o x => kk b o (fun hb => by
      rcases List.mem_cons.mp hb with rfl | hb
      · rw [he₀] at x; cases x
      · rw [List.mem_singleton.mp hb, hi₀] at x; cases x) (F.keep b o x), F.above⟩,
      fun p hp => ⟨kk _ _ (by simpa using off p hp) (N p hp).1, (N p hp).2⟩⟩
  refine for_walkU (s := { s with heap := h, toks := tk }) K (WalksT.enumerate hh e it a hei hae hai vs.toArray).toU
    (fun i s' => ∃ h' tk m' news', s' = { s with heap := h', toks := tk } ∧ ((∃ old, IsEnum h' e it i old) ∧ h'.IsListIter it a i ∧ h'.IsList a vs.toArray) ∧ Fr h₀ env.locals h' m' ∧ News h₀ env.locals h' news' ∧ (∀ p ∈ news', p.1 ≠ e ∧ p.1 ≠ it) ∧ J i m' news')
    (fun i s' ⟨h', tk, m', news', ee, st, _⟩ => by subst ee; exact st) ?_ ?_ ⟨h, tk, m, news, rfl, ⟨⟨_, he⟩, hi, isL (s := { s with heap := h }) N hm⟩, F, N, hoff, h0⟩
  · rintro i s' T vals h₂ tk₂ hin ⟨h₁, tk₁, m₁, news₁, rfl, st, F₁, N₁, off₁, hJ⟩ ⟨t, v, hv, rfl⟩ hT st₂ hk
    obtain ⟨F₂, N₂⟩ := next F₁ N₁ off₁ hk
    have hv' : vs[i]? = some v := by simpa using hv
    refine wpAny_assign_Tuple hh hT rfl rfl fun h₃ he₃ => ?_
    show wpAny _ A (assignInOrder [assign (.Name xi pi) env, assign (.Name xc pc) env] [.int i t, v]) _ _ _
    have up₃ : ∀ b o, h₂.get? b = some o → h₃.get? b = some o := fun b o x => he₃ b o (Nat.ne_of_lt (Heap.lt_size x)) x
    have F₃ := F₂.keeps up₃
    have N₃ : News h₀ env.locals h₃ news₁ := N₂.grown up₃
    unfold assignInOrder
    refine wpAny_bind (wpAny_holding (wpAny_assign_Name (wpAny_storeName_local hxi F₃.ns (fun h₄ hn₄ hs₄ => ?_) hpk)))
    have F₄ : Fr h₀ env.locals h₄ (fun y => if y = xi then some (.int i t) else m₁ y) := F₃.set hn₄ hs₄
    have N₄ : News h₀ env.locals h₄ news₁ := N₃.set hs₄
    unfold assignInOrder
    refine wpAny_bind (wpAny_holding (wpAny_assign_Name (wpAny_storeName_local hxc F₄.ns (fun h₅ hn₅ hs₅ => ?_) hpk)))
    have F₅ : Fr h₀ env.locals h₅ (fun y => if y = xc then some v else if y = xi then some (.int i t) else m₁ y) := F₄.set hn₅ hs₅
    have N₅ : News h₀ env.locals h₅ news₁ := N₄.set hs₅
    unfold assignInOrder
    refine wpAny_pure ?_
    obtain ⟨⟨old, hE⟩, hI, hA⟩ := st₂
    obtain ⟨oit, hoit, rit⟩ := id hI
    obtain ⟨oe, hoe, ree⟩ : ∃ oe, h₂.get? e = some oe ∧ (∀ h' : Heap, h'.get? e = some oe → IsEnum h' e it ((i + 1 : Nat) : Int) old) := ⟨_, hE, fun _ x => x⟩
    have up₅ : ∀ b o, b ≠ env.locals → h₂.get? b = some o → h₅.get? b = some o := fun b o hb x => (hs₅.2 b hb).trans ((hs₄.2 b hb).trans (up₃ b o x))
    have hE₅ := up₅ _ _ heL hoe
    have hI₅ := up₅ _ _ hiL hoit
    have N₅' : News h₀ env.locals h₅ ((e, oe) :: (it, oit) :: news₁) := fun p hp => by
      rcases List.mem_cons.mp hp with rfl | hp
      · exact ⟨hE₅, heL, he₀⟩
      · rcases List.mem_cons.mp hp with rfl | hp
        · exact ⟨hI₅, hiL, hi₀⟩
        · exact N₅ p hp
    refine wpP_mono (turn i v t m₁ news₁ h₅ _ e it oe oit hv' hJ off₁ F₅ N₅') (fun f s₃ h₃' => ?_) fun _ _ x => x
    have back : TurnEnd2 h₀ env.locals s e it oe oit (J (i + 1)) s₃ →
        ∃ h' tk' m' news', s₃ = { s with heap := h', toks := tk' } ∧ ((∃ old, IsEnum h' e it ((i + 1 : Nat) : Int) old) ∧ h'.IsListIter it a (i + 1) ∧ h'.IsList a vs.toArray) ∧ Fr h₀ env.locals h' m' ∧ News h₀ env.locals h' news' ∧ (∀ p ∈ news', p.1 ≠ e ∧ p.1 ≠ it) ∧ J (i + 1) m' news' := by
      clear h₃'
      rintro ⟨h₆, tk₆, m₆, news₆, rfl, F₆, N₆, off₆, hJ₆⟩
      have z1 := (N₆ _ List.mem_cons_self).1
      have z2 := (N₆ _ (List.mem_cons_of_mem _ List.mem_cons_self)).1
      have z3 : News h₀ env.locals h₆ news₆ := fun p hp => N₆ p (List.mem_cons_of_mem _ (List.mem_cons_of_mem _ hp))
      exact ⟨h₆, tk₆, m₆, news₆, rfl, ⟨⟨_, ree _ z1⟩, ⟨oit, z2, rit⟩, isL (s := { s with heap := h₆ }) z3 (hkeep _ _ _ hJ₆)⟩, F₆, z3, off₆, hJ₆⟩
    cases f with
    | next => exact back h₃'
    | cont => exact back h₃'
    | brk => exact h₃'
    | ret v => exact h₃'
  · rintro s' h₂ tk₂ ⟨h₁, tk₁, m₁, news₁, rfl, st, F₁, N₁, off₁, hJ⟩ hk
    obtain ⟨F₂, N₂⟩ := next F₁ N₁ off₁ hk
    exact fin h₂ tk₂ m₁ news₁ F₂ N₂ (by simpa using hJ)
end
end Mine
end
section
open PySem PySem.W PyProof.Rows PySem.Calls
set_option maxRecDepth 100000
namespace Mine
open AutoSeq1 (wpAny_loadPart')
section facts
theorem slot_map_next : Slot "map" "__next__" "map.__next__" :=
  .of (owner := "map") (n := "__next__") (by rw [typeLookup_type, builtinLookup_eq_fast]; kernel_rfl) (by decide +kernel) (by decide +kernel) (by decide +kernel)
    (by first | exact .inl (by decide +kernel) | exact .inr (by decide +kernel)) (by rw [isSubtype_type]; kernel_rfl)
theorem slot_map_iter : Slot "map" "__iter__" "map.__iter__" :=
  .of (owner := "map") (n := "__iter__") (by rw [typeLookup_type, builtinLookup_eq_fast]; kernel_rfl) (by decide +kernel) (by decide +kernel) (by decide +kernel)
    (by first | exact .inl (by decide +kernel) | exact .inr (by decide +kernel)) (by rw [isSubtype_type]; kernel_rfl)
theorem slot_map_init : Slot "map" "__init__" "object.__init__" :=
  .of (owner := "object") (n := "__init__") (by rw [typeLookup_type, builtinLookup_eq_fast]; kernel_rfl) (by decide +kernel) (by decide +kernel) (by decide +kernel)
    (by first | exact .inl (by decide +kernel) | exact .inr (by decide +kernel)) (by rw [isSubtype_type]; kernel_rfl)
theorem entry_map_iter : entryFor table "map.__iter__" = some Builtin.«dict_keyiterator.__iter__» :=
  entryFor_alias (id' := "dict_keyiterator.__iter__") (by kernel_rfl) (by first | rfl | decide +kernel | (unfold String.splitOn; simp +decide [String.splitOnAux])) (by decide +kernel) (by kernel_rfl)
theorem entry_map_next : entryFor table "map.__next__" = some Builtin.«map.__next__» := entryFor_of_tree (by kernel_rfl)
theorem entry_map_new : entryFor table "map.__new__" = some Builtin.«map.__new__» := entryFor_of_tree (by kernel_rfl)
theorem owner_map : Manifest.owners.lookup (String.ofList ['p', 'a', 'm'].reverse) = some Manifest.sig_map := by kernel_rfl
theorem args_map_next (a : Value) : argsOk "map.__next__" ⟨[a], []⟩ := by
  unfold argsOk; rw [signature?_of (id := "map.__next__") (n := ['_', '_', 't', 'x', 'e', 'n', '_', '_']) (o := ['p', 'a', 'm']) (by kernel_rfl) owner_map]; kernel_rfl
theorem args_map_iter (a : Value) : argsOk "map.__iter__" ⟨[a], []⟩ := by
  unfold argsOk; rw [signature?_of (id := "map.__iter__") (n := ['_', '_', 'r', 'e', 't', 'i', '_', '_']) (o := ['p', 'a', 'm']) (by kernel_rfl) owner_map]; kernel_rfl
theorem mro_map : mroOf (.type "map") = pure [.type "map", .type "object"] := by rw [mroOf_type]; kernel_rfl
theorem lookup_map_new : typeLookup (.type "map") "__new__" = pure (some (.builtin "map.__new__")) := by rw [typeLookup_type, builtinLookup_eq_fast]; kernel_rfl
theorem called_map : TypeCalled "map" "map.__new__" "object.__init__" :=
  ⟨by decide +kernel, by decide +kernel, ⟨_, _, mro_map⟩, madeBy_type mro_map lookup_map_new (by decide +kernel), by decide +kernel, by rw [isSubtype_type]; kernel_rfl, slot_map_init⟩
theorem typeCall_map_2 (a b : Value) : checkTypeCall "map" ⟨[a, b], []⟩ = pure () := by kernel_rfl
theorem newCall_map_2 (a b : Value) : checkBuiltinCall "map.__new__" ⟨[.type "map", a, b], []⟩ = pure () := by kernel_rfl
theorem sub_map : isSubtype (.type "map") (.type "map") = pure true := by rw [isSubtype_type]; kernel_rfl
theorem map_no_len : typeLookup (.type "map") "__len__" = pure none := by rw [typeLookup_type, builtinLookup_eq_fast]; kernel_rfl
theorem map_no_hint : typeLookup (.type "map") "__length_hint__" = pure none := by rw [typeLookup_type, builtinLookup_eq_fast]; kernel_rfl
end facts
abbrev mapObj (T : Addr) (f : Value) : Obj := { cls := .type "map", dict := none, data := .fields #[.ref T, f], slots := #[] }
theorem meets_map_new (f l : Addr) (items : Array Value) :
    Meets (Builtin.«map.__new__» ⟨[.type "map", .ref f, .ref l], []⟩) (fun _ R s => s.heap.IsList l items ∧
      R (.ok (.ret (.ref ((s.heap.push { cls := .type "list_iterator", data := .fields #[.ref l, .int 0 0] }).push { cls := .type "tuple", data := .seq #[.ref s.heap.objs.size] }).objs.size)))
        { s with heap := ((s.heap.push { cls := .type "list_iterator", data := .fields #[.ref l, .int 0 0] }).push { cls := .type "tuple", data := .seq #[.ref s.heap.objs.size] }).push (mapObj (s.heap.push { cls := .type "list_iterator", data := .fields #[.ref l, .int 0 0] }).objs.size (.ref f)) }) :=
  .of_wp fun prog w A R s h => by
    obtain ⟨hp, g, d, tk, os⟩ := s; obtain ⟨hl, h⟩ := h
    have hsub := sub_map
    wp_walk using wpAny_pyIter_list hl
    exact ⟨_, rfl, h⟩
end Mine
end
section
open PySem PySem.W PyProof.Rows PySem.Calls
set_option maxRecDepth 100000
namespace Mine
section
variable {P : Ctx → Prop} {prog : Program} {w : World} {A : Around} {E : Value → Shared → Prop} {s : Shared} {R : Result → Shared → Prop}
theorem codeP_builtin (K : Kept P) {id : String} {args : Args} {b : Builtin} (hb : entryFor table id = some b)
    (h : wpP P (model prog w) (A.under (.builtin id args)) (b args) (fun fin s' => match fin with | .done f => R (.ok f) s' | .again c' => c'.quiet = true ∧ calm c' = true ∧ codeP P (model prog w) A c' R s') (fun e s' => R (.error e) s') s) :
    codeP P (model prog w) A (.builtin id args) R s := by
  refine codeP_of_tree K ?_
  have hden : (model prog w).den (.builtin id args) = b args := by
    show (match entryFor table id with | some b => b args | none => unsupported ((withoutEnding? id "#data").getD id)) = _
    rw [hb]
  rw [hden]
  exact h
theorem wpP_stack {A : Around} {M : Model} {Q : List (Code × Pos) → Shared → Prop} (h : ∀ st, (∀ x ∈ st, calm x.1 = true) → Q st s) : wpP Clean M A stack Q E s := fun Γ p _ hP => by
  unfold stack
  rw [Sem.wp_stack]
  exact h _ fun x hx => by
    rcases List.mem_cons.mp hx with rfl | hx
    · exact hP.1
    · exact hP.2 x hx
theorem wpP_of_eq {α : Type} {M : Model} {t : Sem α} {a : α} {Q : α → Shared → Prop} (e : t = pure a) (h : Q a s) : wpP P M A t Q E s := .of_any (wpAny_of_eq e h)
end
section facts
theorem slot_ba_init : Slot "bytearray" "__init__" "bytearray.__init__" :=
  .of (owner := "bytearray") (n := "__init__") (by rw [typeLookup_type, builtinLookup_eq_fast]; kernel_rfl) (by decide +kernel) (by decide +kernel) (by decide +kernel)
    (by first | exact .inl (by decide +kernel) | exact .inr (by decide +kernel)) (by rw [isSubtype_type]; kernel_rfl)
theorem mro_ba : mroOf (.type "bytearray") = pure [.type "bytearray", .type "object"] := by rw [mroOf_type]; kernel_rfl
theorem lookup_ba_new : typeLookup (.type "bytearray") "__new__" = pure (some (.builtin "bytearray.__new__")) := by rw [typeLookup_type, builtinLookup_eq_fast]; kernel_rfl
theorem called_ba : TypeCalled "bytearray" "bytearray.__new__" "bytearray.__init__" :=
  ⟨by decide +kernel, by decide +kernel, ⟨_, _, mro_ba⟩, madeBy_type mro_ba lookup_ba_new (by decide +kernel), by decide +kernel, by rw [isSubtype_type]; kernel_rfl, slot_ba_init⟩
theorem typeCall_ba_1 (a : Value) : checkTypeCall "bytearray" ⟨[a], []⟩ = pure () := by kernel_rfl
theorem newCall_ba_1 (a : Value) : checkBuiltinCall "bytearray.__new__" ⟨[.type "bytearray", a], []⟩ = pure () := by kernel_rfl
theorem entry_ba_new : entryFor table "bytearray.__new__" = some Builtin.«list.__new__» :=
  entryFor_alias (id' := "list.__new__") (by kernel_rfl) (by first | rfl | decide +kernel | (unfold String.splitOn; simp +decide [String.splitOnAux])) (by decide +kernel) (by kernel_rfl)
theorem entry_ba_init : entryFor table "bytearray.__init__" = some Builtin.«bytearray.__init__» := entryFor_of_tree (by kernel_rfl)
theorem plain_ba_new : plainId "bytearray.__new__" = true := by decide +kernel
theorem owner_ba : Manifest.owners.lookup (String.ofList "bytearray".toList.reverse.reverse) = some Manifest.sig_bytearray := by kernel_rfl
theorem args_ba_init (a b : Value) : argsOk "bytearray.__init__" ⟨[a, b], []⟩ := by
  unfold argsOk; rw [signature?_of (id := "bytearray.__init__") (n := "__init__".toList.reverse) (o := "bytearray".toList.reverse) (by kernel_rfl) owner_ba]; kernel_rfl
set_option maxHeartbeats 4000000 in
theorem owner_ba_new : ("bytearray.__new__".splitOn ".__new__").headD "" = "bytearray" := by simp +decide [String.splitOn, String.splitOnAux]
theorem sub_ba_self : isSubtype (.type "bytearray") (.type "bytearray") = pure true := by rw [isSubtype_type]; kernel_rfl
end facts
end Mine
end
section
open PySem PySem.W PyProof.Rows PySem.Calls
set_option maxRecDepth 100000
namespace Mine
abbrev baObj (b : Array UInt8) : Obj := { cls := .type "bytearray", dict := none, data := .bytearray b 0, slots := #[] }
section
variable {P : Ctx → Prop} {prog : Program} {w : World} {A : Around} {E : Value → Shared → Prop} {s : Shared} {R : Result → Shared → Prop}
theorem code_ba_new (a : Value) {Q₁ : Value → Shared → Prop}
    (h : Q₁ (.ref s.heap.objs.size) { s with heap := s.heap.push (baObj #[]) }) :
    codeAny (model prog w) A (.call (.builtin "bytearray.__new__") ⟨[.type "bytearray", a], []⟩) (wants Q₁ E) s := by
  refine codeAny_of_tree ?_
  show wpAny _ A.in1 (do checkBuiltinCall "bytearray.__new__" ⟨[.type "bytearray", a], []⟩; again (.builtin "bytearray.__new__" ⟨[.type "bytearray", a], []⟩)) _ _ s
  refine wpAny_bind (wpAny_of_eq (newCall_ba_1 a) (wpAny_pure ⟨plainId_quiet plain_ba_new _, codeAny_builtin_stack entry_ba_new rfl fun p st => ?_⟩))
  rw [Around.under_plainId plain_ba_new _]
  have hsub := sub_ba_self
  have hown := owner_ba_new
  obtain ⟨hp, g, d, tk, os⟩ := s
  simp only [hown]
  wp_walk
  exact h
theorem type_call_ba (K : Kept P) {v : Value} {Q Q₁ : Value → Shared → Prop} (hnew : codeAny (model prog w) A.in1 (.call (.builtin "bytearray.__new__") ⟨[.type "bytearray", v], []⟩) (wants Q₁ (fun _ _ => False)) s)
    (hnext : ∀ obj s₁, Q₁ obj s₁ → s₁.TypeIs obj "bytearray" ∧ wpP P (model prog w) A.in1 (call (.builtin "bytearray.__init__") [obj, v]) (fun r s₂ => r = .none ∧ Q obj s₂) E s₁) :
    wpP P (model prog w) A (call (.type "bytearray") [v]) Q E s := by
  refine wpP_call K (codeP_of_tree K ?_)
  show wpP P _ _ (callAny (.type "bytearray") _) _ _ _
  refine wpP_pure ⟨Code.quiet_builtin _ (by decide +kernel), rfl, codeP_builtin K F.entry_type_call ?_⟩
  rw [Around.under_plain (weight_type_call_type "bytearray" [v] []) rfl]
  unfold Builtin.«type.__call__»
  dsimp only
  rw [if_neg (by decide)]
  rw [if_neg (by rw [called_ba.canCreate]; decide)]
  refine wpP_bind (wpP_of_eq (typeCall_ba_1 v) ?_)
  refine wpP_bind (wpP_of_eq mro_ba ?_)
  rw [if_neg (by decide)]
  refine wpP_bind (wpP_of_eq called_ba.made ?_)
  dsimp only
  refine wpP_bind (wpP_pure ?_)
  refine wpP_bind (wpP_holding (wpP_call K (.of_any (codeAny_mono hnew fun r s₁ hr => ?_))))
  cases r with
  | error e => exact hr.elim
  | ok fl =>
    cases fl with
    | ret obj =>
      obtain ⟨hT, hi⟩ := hnext obj s₁ hr
      refine wpP_bindA (wpAny_isInstance hT sub_ba_self ?_)
      rw [if_neg (by decide)]
      refine wpP_bind (wpP_holding ?_)
      simp only [callSpecial?]
      refine wpP_bindA (wpAny_specialOf hT slot_ba_init.lookup ?_)
      simp only [slot_ba_init.bind]
      refine wpP_holding (wpP_bind (wpP_pure (wpP_bind (wpP_mono hi (fun r s₂ hr => ?_) fun _ _ x => x))))
      obtain ⟨rfl, hq⟩ := hr
      refine wpP_pure ?_
      dsimp only
      rw [if_neg (by decide)]
      exact wpP_pure hq
    | _ => exact hr.elim
end
end Mine
end
section
open PySem PySem.W PyProof.Rows PySem.Calls
set_option maxRecDepth 100000
namespace Mine
section
variable {P : Ctx → Prop} {prog : Program} {w : World} {A : Around} {E : Value → Shared → Prop} {s : Shared} {R : Result → Shared → Prop}
theorem call_slotP (K : Kept P) {T : String} {name : Str} {id : String} {b : Builtin} {self : Value} {rest : List Value} {Q : Value → Shared → Prop} (h : Slot T name id) (hT : s.TypeIs self T) (hcalm : calm (.builtin id ⟨self :: rest, []⟩) = true)
    (hb : entryFor table id = some b) (hc : wpP P (model prog w) A.in1 (b ⟨self :: rest, []⟩) (fun fin s' => ∃ v, fin = .done (.ret v) ∧ Q v s') E s) (ha : argsOk id ⟨self :: rest, []⟩) :
    wpP P (model prog w) A (call (.builtin id) (self :: rest)) Q E s := by
  refine wpP_call K (codeP_of_tree K ?_)
  show wpP P _ A.in1 (do checkBuiltinCall id ⟨self :: rest, []⟩; again (.builtin id ⟨self :: rest, []⟩)) _ _ s
  refine wpP_bindA (h.check _ _ _ _ _ _ _ _ hT ha ?_)
  refine wpP_pure ⟨plainId_quiet h.plain _, hcalm, codeP_builtin K hb ?_⟩
  rw [Around.under_plainId h.plain _]
  refine wpP_mono hc (fun fin s' h' => ?_) fun _ _ x => x
  obtain ⟨v, rfl, hv⟩ := h'
  exact hv
theorem rel_lookup : typeLookup (.type "bytearray") "__release_buffer__" = pure (some (.builtin "bytearray.__release_buffer__")) := by rw [typeLookup_type, builtinLookup_eq_fast]; kernel_rfl
theorem rel_ends : ("bytearray.__release_buffer__" : String).endsWith ("." ++ "__release_buffer__") = true := by decide +kernel
theorem rel_drop : ("bytearray.__release_buffer__" : String).dropRight ("__release_buffer__".length + 1) = "bytearray" := by decide +kernel
theorem slot_ba_release {a : Addr} {o : Obj} (ho : s.heap.get? a = some o) (hc : o.cls = .type "bytearray") {Q : Bool → Shared → Prop} (h : Q false s) : wpAny (model prog w) A (Builtin.Bytes.ownRelease (.ref a)) Q E s := by
  have hT : s.TypeIs (.ref a) "bytearray" := ⟨o, ho, hc⟩
  unfold Builtin.Bytes.ownRelease Builtin.Bytes.slotIsOwn
  refine wpAny_bind ?_
  refine wpAny_bind (wpAny_specialOf hT rel_lookup ?_)
  dsimp only
  rw [if_neg (by rw [rel_ends]; decide), rel_drop]
  exact wpAny_isInstance hT sub_ba_self (wpAny_pure h)
theorem exported_no {v : Value} {Q : Bool → Shared → Prop} (h : Q false s) : wpP Clean (model prog w) A (Builtin.Bytes.exported v) Q E s := by
  unfold Builtin.Bytes.exported
  refine wpP_bind (wpP_stack fun st hst => wpP_pure ?_)
  refine cast ?_ h
  refine congrArg (fun b => Q b s) (Eq.symm ?_)
  rw [List.any_eq_false]
  intro x hx
  have hc := hst x hx
  split
  · exact absurd (show (!(holdIds.contains "bytearray.__contains__")) = true from hc) (by rw [show holdIds.contains "bytearray.__contains__" = true from by decide +kernel]; decide)
  · exact absurd (show (!(holdIds.contains "bytearray.__mod__")) = true from hc) (by rw [show holdIds.contains "bytearray.__mod__" = true from by decide +kernel]; decide)
  · exact absurd (show (!(holdIds.contains "bytearray.__rmod__")) = true from hc) (by rw [show holdIds.contains "bytearray.__rmod__" = true from by decide +kernel]; decide)
  · exact absurd (show (!(holdIds.contains "_struct.pack_into.held")) = true from hc) (by rw [show holdIds.contains "_struct.pack_into.held" = true from by decide +kernel]; decide)
  · exact absurd (show (!(holdIds.contains "bytearray.find.held")) = true from hc) (by rw [show holdIds.contains "bytearray.find.held" = true from by decide +kernel]; decide)
  · rename_i id u tail kw p _ _ _ _ _
    have : Builtin.Bytes.decodersThatHold.contains id = false := by
      cases q : Builtin.Bytes.decodersThatHold.contains id with
      | false => rfl
      | true =>
        have h2 : holdIds.contains id = true := by
          unfold holdIds
          rw [List.contains_iff_mem] at q ⊢
          exact List.mem_append.mpr (.inr q)
        have h3 : (!(holdIds.contains id)) = true := hc
        rw [h2] at h3
        exact absurd h3 (by decide)
    rw [this, Bool.and_false]
    decide
  · decide
theorem write_ba {B : Addr} {b : Array UInt8} {f : Array UInt8 → Array UInt8} {Q : Unit → Shared → Prop} (ho : s.heap.get? B = some (baObj b)) (hz : (f b).size ≤ 1000000) (h : ∀ h', Heap.SameBut B s.heap h' → h'.get? B = some (baObj (f b)) → Q () { s with heap := h' }) :
    wpAny (model prog w) A (Builtin.Bytes.write (.ref B) f) Q E s := by
  unfold Builtin.Bytes.write updateBytearray
  refine wpAny_bind (wpAny_load ho ?_)
  dsimp only
  refine wpAny_bind (wpAny_update ho ?_)
  have hself := Heap.get?_update_self (Obj.mapBytearray f) ho rfl
  refine wpAny_lookBehind hself ?_ (h _ (Heap.SameBut.update ..) hself)
  show (if (f b).size > sizeLine then _ else _) = none
  rw [if_neg (by rw [sizeLine_eq]; omega)]
theorem init_ba {B : Addr} {n : Nat} {t : Tok} {Q : Value → Shared → Prop} (ho : s.heap.get? B = some (baObj #[])) (hn : n ≤ 1000000)
    (h : ∀ h', Heap.SameBut B s.heap h' → h'.get? B = some (baObj (Array.replicate n 0)) → Q .none { s with heap := h' }) :
    wpP Clean (model prog w) A (call (.builtin "bytearray.__init__") [.ref B, .int n t]) Q E s := by
  have hT : s.TypeIs (.ref B) "bytearray" := ⟨_, ho, rfl⟩
  refine call_slotP clean_kept slot_ba_init hT rfl entry_ba_init ?_ (args_ba_init _ _)
  unfold Builtin.«bytearray.__init__»
  dsimp only
  refine wpP_bindA (slot_ba_release ho rfl ?_)
  rw [if_neg (by decide)]
  have hb : Builtin.Bytes.bindOptional "bytearray.__init__" "bytearray" ["source", "encoding", "errors"] [.int n t] [] = pure [some (.int n t), none, none] := by kernel_rfl
  refine wpP_bind (wpP_of_eq hb ?_)
  dsimp only
  refine wpP_bind (wpP_of_eq (a := ()) rfl ?_)
  refine wpP_bind (wpP_of_eq (a := ()) rfl ?_)
  refine wpP_bind ?_
  show wpP _ _ _ (Builtin.Bytes.exported _ >>= _) _ _ _
  refine wpP_bind (exported_no ?_)
  show wpP _ _ _ (Builtin.Bytes.exportsOf _ >>= fun b => pure (decide (b > 0))) _ _ _
  unfold Builtin.Bytes.exportsOf
  refine wpP_bindA (wpAny_bind (wpAny_load ho (wpAny_pure ?_)))
  refine wpP_pure ?_
  rw [if_neg (by decide)]
  refine .of_any ?_
  refine wpAny_bind (write_ba ho (by simp) fun h₁ hs₁ ho₁ => ?_)
  have hs : asStr? (.int (n : Int) t) = pure none := rfl
  rw [hs]
  simp only [pure_bind]
  simp only [Option.isSome_none, Bool.false_eq_true, if_false]
  simp only [pure_bind]
  have hix : specialOf (.int (n : Int) t) (Str.ofString "__index__") = pure (some (.builtin "int.__index__")) := by
    unfold specialOf
    have e1 : typeOf (.int (n : Int) t) = pure (.type "int") := rfl
    rw [e1]
    simp only [pure_bind]
    exact F.slot_int_index.lookup
  rw [hix]
  simp only [pure_bind]
  simp only [Option.isSome_some, if_true]
  have ha : (asIndex (.int (n : Int) t)).attempt = pure (.ok (n : Int)) := rfl
  rw [ha]
  simp only [pure_bind]
  have hf : (!Builtin.Bytes.fitsIndex (n : Int)) = false := by
    unfold Builtin.Bytes.fitsIndex
    simp only [Bool.not_eq_false', Bool.and_eq_true, decide_eq_true_eq]
    omega
  have hl : Builtin.Bytes.tooLong ((n : Int).toNat) = false := KBy.tooLong_not (by simp; omega)
  have he : ((n : Int) == 2 ^ 63 - 1) = false := by
    rw [beq_eq_false_iff_ne]; omega
  rw [if_neg (by rw [hf]; exact Bool.false_ne_true), if_neg (by omega), if_neg (by rw [he]; exact Bool.false_ne_true), if_neg (by rw [hl]; exact Bool.false_ne_true)]
  refine wpAny_bind (wpAny_rule ?_)
  by_cases h0 : (n : Int) > 0
  · rw [if_pos h0]
    refine wpAny_bind (write_ba ho₁ (by simp; omega) fun h₂ hs₂ ho₂ => ?_)
    exact wpAny_pure ⟨_, rfl, h h₂ (hs₁.trans hs₂) (by simpa using ho₂)⟩
  · rw [if_neg h0]
    have : n = 0 := by omega
    subst this
    exact wpAny_pure ⟨_, rfl, h h₁ hs₁ ho₁⟩
end
end Mine
end
section
open PySem PySem.W PyProof.Rows PySem.Calls
set_option maxRecDepth 100000
namespace Mine
section facts
theorem slot_ba_setitem : Slot "bytearray" "__setitem__" "bytearray.__setitem__" :=
  .of (owner := "bytearray") (n := "__setitem__") (by rw [typeLookup_type, builtinLookup_eq_fast]; kernel_rfl) (by decide +kernel) (by decide +kernel) (by decide +kernel)
    (by first | exact .inl (by decide +kernel) | exact .inr (by decide +kernel)) (by rw [isSubtype_type]; kernel_rfl)
theorem entry_ba_setitem : entryFor table "bytearray.__setitem__" = some Builtin.«bytearray.__setitem__» := entryFor_of_tree (by kernel_rfl)
theorem args_ba_setitem (a b c : Value) : argsOk "bytearray.__setitem__" ⟨[a, b, c], []⟩ := by
  unfold argsOk; rw [signature?_of (id := "bytearray.__setitem__") (n := "__setitem__".toList.reverse) (o := "bytearray".toList.reverse) (by kernel_rfl) owner_ba]; kernel_rfl
theorem ba_no_bytes : typeLookup (.type "bytearray") "__bytes__" = pure none := by rw [typeLookup_type, builtinLookup_eq_fast]; kernel_rfl
theorem ba_no_index : typeLookup (.type "bytearray") "__index__" = pure none := by rw [typeLookup_type, builtinLookup_eq_fast]; kernel_rfl
theorem ba_buffer : typeLookup (.type "bytearray") "__buffer__" = pure (some (.builtin "bytearray.__buffer__")) := by rw [typeLookup_type, builtinLookup_eq_fast]; kernel_rfl
theorem buf_ends : ("bytearray.__buffer__" : String).endsWith ("." ++ "__buffer__") = true := by decide +kernel
theorem buf_drop : ("bytearray.__buffer__" : String).dropRight ("__buffer__".length + 1) = "bytearray" := by decide +kernel
end facts
section
variable {prog : Program} {w : World} {A : Around} {E : Value → Shared → Prop} {s : Shared} {h₀ : Heap} {L : Addr} {m : Str → Option Value} {news : List (Addr × Obj)}
theorem call_ba_K {n : Nat} {t : Tok} {Q : Value → Shared → Prop} (F : Fr h₀ L s.heap m) (N : News h₀ L s.heap news) (hn : n ≤ 1000000)
    (h : ∀ h' B, Fr h₀ L h' m → News h₀ L h' ((B, baObj (Array.replicate n 0)) :: news) → (∀ p ∈ news, p.1 < B) → Q (.ref B) { s with heap := h' }) :
    wpP Clean (model prog w) A (call (.type "bytearray") [.int n t]) Q E s := by
  refine type_call_ba (Q₁ := fun obj s₁ => obj = .ref s.heap.objs.size ∧ s₁ = { s with heap := s.heap.push (baObj #[]) }) clean_kept (code_ba_new _ ⟨rfl, rfl⟩) ?_
  rintro obj s₁ ⟨rfl, rfl⟩
  have g : (s.heap.push (baObj #[])).get? s.heap.objs.size = some (baObj #[]) := Heap.get?_push_size _ rfl
  have up : ∀ b o, s.heap.get? b = some o → (s.heap.push (baObj #[])).get? b = some o := fun b o e => Heap.get?_push_of_some _ e
  obtain ⟨f1, f2⟩ := fresh_I F
  refine ⟨⟨_, g, rfl⟩, init_ba g hn fun h' hs ho => ⟨rfl, h h' _ ((F.keeps up).change hs (Ne.symm f1) f2) (fun p hp => ?_) fun p hp => Heap.lt_size (N p hp).1⟩⟩
  rcases List.mem_cons.mp hp with rfl | hp
  · exact ⟨ho, Ne.symm f1, f2⟩
  · exact ⟨(hs.2 _ (Nat.ne_of_lt (Heap.lt_size (N p hp).1))).trans (up _ _ (N p hp).1), (N p hp).2⟩
theorem setItem_ba {B : Addr} {b : Array UInt8} {k x : Int} {t u : Tok} {Q : Unit → Shared → Prop} (ho : s.heap.get? B = some (baObj b)) (h0 : 0 ≤ k) (h1 : k < b.size) (hz : b.size ≤ 1000000) (hx0 : 0 ≤ x) (hx : x < 256)
    (h : ∀ h', Heap.SameBut B s.heap h' → h'.get? B = some (baObj (b.setIfInBounds k.toNat x.toNat.toUInt8)) → Q () { s with heap := h' }) :
    wpAny (model prog w) A (setItem (.ref B) (.int k t) (.int x u)) Q E s := by
  have hT : s.TypeIs (.ref B) "bytearray" := ⟨_, ho, rfl⟩
  unfold setItem
  refine wpAny_holding ?_
  first | refine wpAny_bind (wpAny_pure ?_) | skip
  refine wpAny_bind (wpAny_sequenceKey hT (by decide) ?_)
  refine wpAny_bind (wpAny_callSpecial?_slot (name := Str.ofString "__setitem__") hT slot_ba_setitem (wpAny_call_entry slot_ba_setitem hT entry_ba_setitem ?_ (args_ba_setitem _ _ _)))
  unfold Builtin.«bytearray.__setitem__»
  simp only [List.isEmpty_nil, Bool.not_true, Bool.false_eq_true, if_false]
  refine wpAny_bind ?_
  unfold Builtin.Bytes.subscript?
  refine wpAny_bind (wpAny_specialOf (typeIs_int _ _ t) F.slot_int_index.lookup ?_)
  simp only [Option.isNone_some, Bool.false_eq_true, if_false]
  have ha : asIndex (.int k t) = pure k := rfl
  rw [ha]
  simp only [pure_bind]
  have hf : (!Builtin.Bytes.fitsIndex k) = false := by
    unfold Builtin.Bytes.fitsIndex
    simp only [Bool.not_eq_false', Bool.and_eq_true, decide_eq_true_eq]
    omega
  rw [if_neg (by rw [hf]; exact Bool.false_ne_true)]
  refine wpAny_pure ?_
  dsimp only
  refine wpAny_bind ?_
  unfold Builtin.Bytes.byteValue
  have hb : asIndex (.int x u) = pure x := rfl
  rw [hb]
  simp only [pure_bind]
  have hr : (decide (x < 0) || decide (x ≥ 256)) = false := by
    rw [Bool.or_eq_false_iff, decide_eq_false_iff_not, decide_eq_false_iff_not]; omega
  rw [if_neg (by rw [hr]; exact Bool.false_ne_true)]
  refine wpAny_pure ?_
  refine wpAny_bind ?_
  unfold Builtin.Bytes.payload Builtin.Bytes.payload?
  refine wpAny_bind (wpAny_bind (wpAny_load ho ?_))
  refine wpAny_pure (wpAny_pure ?_)
  have hi : seqIndex? k b.size = some k.toNat := by
    have hn : ¬ k < 0 := by omega
    simp [seqIndex?, hn, h0, h1]
  rw [hi]
  dsimp only
  refine wpAny_bind (write_ba ho (by simpa using hz) fun h' hs ho' => ?_)
  exact wpAny_pure ⟨_, rfl, wpAny_pure (h h' hs ho')⟩
/-- the octets of a bytearray, as bytes -/
theorem call_bytes_ba {B : Addr} {b : Array UInt8} {Q : Value → Shared → Prop} (ho : s.heap.get? B = some (baObj b)) (hz : b.size ≤ 1000000)
    (h : ∀ t k, Q (.bytes b t) { s with toks := k }) : wpAny (model prog w) A (call (.type "bytes") [.ref B]) Q E s := by
  have hT : s.TypeIs (.ref B) "bytearray" := ⟨_, ho, rfl⟩
  refine callType_codes (Q₁ := fun obj s₁ => s₁.TypeIs obj "bytes" ∧ Q obj s₁) F.bm_called (by kernel_rfl) F.entry_object_init ?_ fun obj s₁ h₁ => ?_
  · refine codeAny_of_tree ?_
    show wpAny _ A.in1.in1 (do checkBuiltinCall "bytes.__new__" ⟨[.type "bytes", .ref B], []⟩; again (.builtin "bytes.__new__" ⟨[.type "bytes", .ref B], []⟩)) _ _ s
    refine wpAny_bind (wpAny_of_eq (F.bm_newCall _) (wpAny_pure ⟨plainId_quiet F.bm_plain _, codeAny_builtin F.bm_entry ?_⟩))
    rw [Around.under_plainId F.bm_plain _]
    unfold Builtin.«bytes.__new__»
    refine wpAny_bind (wpAny_of_eq (a := true) rfl ?_)
    refine bm_if_false rfl ?_
    refine wpAny_bind (wpAny_of_eq F.bm_sub ?_)
    refine bm_if_false rfl ?_
    refine wpAny_bind (wpAny_of_eq (F.bm_bind _) ?_)
    refine wpAny_bind (wpAny_of_eq (a := ()) rfl ?_)
    refine wpAny_bind (wpAny_of_eq (a := ()) rfl ?_)
    refine bm_if_false rfl ?_
    refine wpAny_bind (wpAny_specialOf hT ba_no_bytes ?_)
    refine wpAny_bind (wpAny_bind ?_)
    show wpAny _ _ (load B >>= _) _ _ _
    refine wpAny_bind (wpAny_load ho ?_)
    dsimp only
    refine wpAny_pure (wpAny_pure ?_)
    refine bm_if_false rfl ?_
    refine wpAny_bind (wpAny_specialOf hT ba_no_index ?_)
    refine bm_if_true rfl ?_
    first
      | show wpAny _ _ (Builtin.Bytes.buffer? "bytes.__new__" (.ref B) true >>= _) _ _ _
      | (refine wpAny_bind ?_; show wpAny _ _ (Builtin.Bytes.buffer? "bytes.__new__" (.ref B) true >>= _) _ _ _)
    refine wpAny_bind ?_
    unfold Builtin.Bytes.buffer?
    refine wpAny_bind (wpAny_specialOf hT ba_buffer ?_)
    have own : ∀ {Q' : Bool → Shared → Prop} {E' : Value → Shared → Prop}, Q' true s → wpAny (model prog w) A.in1.in1 (Builtin.Bytes.slotIsOwn (.ref B) "__buffer__") Q' E' s := by
      intro Q' E' q
      unfold Builtin.Bytes.slotIsOwn
      refine wpAny_bind (wpAny_specialOf hT ba_buffer ?_)
      dsimp only
      rw [if_neg (by rw [buf_ends]; decide), buf_drop]
      exact wpAny_isInstance hT sub_ba_self q
    refine wpAny_bind (own ?_)
    refine bm_if_false rfl ?_
    refine wpAny_bind (wpAny_specialOf hT ba_buffer ?_)
    refine wpAny_bind (slot_ba_release ho rfl ?_)
    refine bm_if_false rfl ?_
    unfold Builtin.Bytes.payload Builtin.Bytes.payload?
    refine wpAny_bind (wpAny_bind (wpAny_bind (wpAny_load ho ?_)))
    refine wpAny_pure (wpAny_pure (wpAny_pure ?_))
    refine wpAny_bind (wpAny_rule ?_)
    refine wpAny_bind (wpAny_mkBytes ?_ (by rw [sizeLine_eq]; omega))
    exact wpAny_pure ⟨typeIs_bytes _ _ _, h _ _⟩
  · exact ⟨h₁.1, F.args_object_init_2 obj _, object_init_meets F.bm_called.init.lookup F.bm_called.made (by decide) _ w _ _ s₁ ⟨h₁.1, rfl, h₁.2⟩⟩
end
end Mine
end
section
open PySem PySem.W PyProof.Rows PySem.Calls
set_option maxRecDepth 100000
namespace Mine
section
variable {P : Ctx → Prop} {prog : Program} {w : World} {M : Model} {A : Around} {E : Value → Shared → Prop} {s : Shared} {env : Env}
theorem wpP_operate {vs : List Value} {m : Sem Value} {Q : Value → Shared → Prop} (h : wpP P M A m Q E s) : wpP P M A (operate vs m) Q E s := fun Γ p hΓ hP => by
  rw [Sem.wp_operate]; exact h Γ p hΓ hP
theorem execsP {st : Stmt} {rest : List Stmt} {Q : Flow → Shared → Prop}
    (h : wpP P M A (exec st env) (fun f s' => match f with | .next => wpP P M A (execs rest env) Q E s' | f => Q f s') E s) : wpP P M A (execs (st :: rest) env) Q E s := by
  rw [execs_cons]
  refine wpP_bind (wpP_mono h (fun f s' h' => ?_) fun _ _ x => x)
  cases f <;> first | exact h' | exact wpP_pure h'
theorem ReturnP {e : Expr} {pos : Pos} {Q : Flow → Shared → Prop} (h : wpP P M A (eval e env) (fun v => Q (.ret v)) E s) : wpP P M A (exec (.Return (some e) pos) env) Q E s := by
  rw [exec_Return_some]
  exact wpP_bind (wpP_standAt (wpP_bind (wpP_mono h (fun _ _ x => wpP_pure x) fun _ _ x => x)))
theorem AssignP {x : Str} {pos' : Pos} {value : Expr} {pos : Pos} {Q : Flow → Shared → Prop} (h : wpP P M A (eval value env) (fun v s₁ => wpAny M A (storeName env x v) (fun _ => Q .next) E s₁) E s)
    (hs : swapsWith value (some (.Name x pos')) pos.line env = pure false := by rfl) : wpP P M A (exec (.Assign [.Name x pos'] value pos) env) Q E s := by
  rw [exec_Assign_Name env x pos' value pos hs]
  refine wpP_bind (wpP_standAt (wpP_bind (wpP_mono h (fun v s₁ h₁ => ?_) fun _ _ x => x)))
  exact wpP_bind (wpP_standAt (wpP_bindA (wpAny_bindName (wpAny_mono h₁ (fun _ _ q => wpP_pure q) fun _ _ x => x))))
theorem IfP {test : Expr} {body orelse : List Stmt} {pos : Pos} {Q : Flow → Shared → Prop}
    (h : wpP P M A (isTrue test env (eval test env)) (fun b s₂ => if b = true then wpP P M A (execs body env) Q E s₂ else wpP P M A (execs orelse env) Q E s₂) E s) : wpP P M A (exec (.If test body orelse pos) env) Q E s := by
  rw [exec_If]
  refine wpP_bind (wpP_standAt (wpP_bind (wpP_mono h (fun b s₂ h₂ => ?_) fun _ _ x => x)))
  cases b <;> exact h₂
theorem Compare1P {l r : Expr} {op : CmpOp} {pos : Pos} {whole} {Q : Bool → Shared → Prop}
    (h : wpP P M A (eval l env) (fun a s₁ => wpP P M A (eval r env) (fun b s₂ => wpAny M A (compareOp op a b) (fun c s₃ => wpAny M A (truthy c) Q E s₃) E s₂) E s₁) E s)
    (hm : behindInMarks op r = false := by with_unfolding_all rfl) : wpP P M A (isTrue (.Compare l [op] [r] pos) env whole) Q E s := by
  rw [isTrue_Compare1]
  refine wpP_bind (wpP_mono h (fun a s₁ h₁ => ?_) fun _ _ x => x)
  rw [markedBehindIn_of_false hm]
  refine wpP_bind (wpP_holding (wpP_mono h₁ (fun b s₂ h₂ => ?_) fun _ _ x => x))
  refine wpP_bind (wpP_standAt (wpP_bind (wpP_operate (.of_any (wpAny_mono h₂ (fun c s₃ h₃ => ?_) fun _ _ x => x)))))
  exact wpP_holding (.of_any h₃)
theorem splNilP {pos : Pos} {Q : List Value → Shared → Prop} (h : Q [] s) : wpP P M A (spliced (backTo pos (starEach [] env))) Q E s := wpP_pure h
theorem splConsP {e : Expr} {rest : List Expr} {pos : Pos} {Q : List Value → Shared → Prop}
    (h : wpP P M A (eval e env) (fun v s₁ => wpP P M A (spliced (backTo pos (starEach rest env))) (fun vs s₂ => Q (v :: vs) s₂) E s₁) E s)
    (he : starEach (e :: rest) env = (false, eval e env) :: starEach rest env := by rfl) : wpP P M A (spliced (backTo pos (starEach (e :: rest) env))) Q E s := by
  rw [he]
  show wpP P M A (spliced ((false, eval e env) :: backTo pos (starEach rest env))) Q E s
  rw [spliced]
  refine wpP_bind (wpP_mono h (fun v s₁ h₁ => ?_) fun _ _ x => x)
  simp only [Bool.false_eq_true, if_false]
  exact wpP_bind (wpP_pure (wpP_bind (wpP_holding (wpP_mono h₁ (fun vs s₂ h₂ => wpP_pure h₂) fun _ _ x => x))))
theorem ListP {elts : List Expr} {pos : Pos} {Q : Value → Shared → Prop} (h : wpP P M A (spliced (backTo pos (starEach elts env))) (fun vs s₁ => wpAny M A (newList vs) Q E s₁) E s) : wpP P M A (eval (.List elts pos) env) Q E s := by
  show wpP P M A (do standAt pos; newList (← spliced (backTo pos (starEach elts env)))) Q E s
  exact wpP_bind (wpP_standAt (wpP_bind (wpP_mono h (fun vs s₁ h₁ => .of_any h₁) fun _ _ x => x)))
theorem CallP {func : Expr} {args : List Expr} {pos : Pos} {Q : Value → Shared → Prop}
    (h : wpAny M A (eval func env) (fun f s₁ => wpP P M A (callWith pos f [] (backTo pos (starEach args env)) []) Q E s₁) E s)
    (he : eval (.Call func args [] pos) env = (do callWith pos (← eval func env) [] (backTo pos (starEach args env)) (backToKw pos (keywordEach [] env))) := by rfl) :
    wpP P M A (eval (.Call func args [] pos) env) Q E s := by
  rw [he]; exact wpP_bindA h
theorem argsP {f : Value} {e : Expr} {rest : List Expr} {pos : Pos} {Q : Args → Shared → Prop} (h : wpP P M A (spliced (backTo pos (starEach (e :: rest) env))) (fun vs s' => Q ⟨vs, []⟩ s') E s)
    (he : starEach (e :: rest) env = (false, eval e env) :: starEach rest env := by rfl) : wpP P M A (evalArgs f true (backTo pos (starEach (e :: rest) env)) []) Q E s := by
  rw [he] at h ⊢
  unfold evalArgs
  show wpP P M A (spliced ((false, _) :: backTo pos (starEach rest env)) >>= _) Q E s
  refine wpP_bind (wpP_mono h (fun vs s' h' => ?_) fun _ _ x => x)
  refine wpP_holding ?_
  exact wpP_bind (wpP_pure (wpP_bind (wpP_pure (wpP_pure h'))))
theorem callWith_typeP {pos : Pos} {T : String} {e : Expr} {rest : List Expr} {Q : Value → Shared → Prop}
    (h : wpP P M A (spliced (backTo pos (starEach (e :: rest) env))) (fun vs s₁ => wpP P M A (call (.type T) vs) Q E s₁) E s) (he : starEach (e :: rest) env = (false, eval e env) :: starEach rest env := by rfl)
    (hplain : (backTo pos (starEach (e :: rest) env)).any (·.1) = false := by rfl) :
    wpP P M A (callWith pos (.type T) [] (backTo pos (starEach (e :: rest) env)) []) Q E s := by
  unfold callWith
  refine wpP_bind (wpP_holding (wpP_mono (argsP (Q := fun a s₁ => wpP P M A (call (.type T) a.pos a.kw) Q E s₁) h he) (fun a s₁ h₁ => wpP_bind (wpP_standAt ?_)) fun _ _ x => x))
  simp only [hplain, List.any_nil, Bool.or_false]
  refine wpP_bind (wpP_pure ?_)
  exact wpP_bind (wpP_mono h₁ (fun r s₂ hr => wpP_bind (wpP_holding (.of_any (wpAny_point (wpP_pure hr))))) fun _ _ x => x)
theorem callWith_refP {pos : Pos} {a : Addr} {e : Expr} {rest : List Expr} {Q : Value → Shared → Prop}
    (h : wpP P M A (spliced (backTo pos (starEach (e :: rest) env))) (fun vs s₁ => (∃ o fd, s₁.heap.get? a = some o ∧ o.data = .func fd) ∧ wpP P M A (call (.ref a) vs) Q E s₁) E s) (he : starEach (e :: rest) env = (false, eval e env) :: starEach rest env := by rfl)
    (hplain : (backTo pos (starEach (e :: rest) env)).any (·.1) = false := by rfl) :
    wpP P M A (callWith pos (.ref a) [] (backTo pos (starEach (e :: rest) env)) []) Q E s := by
  unfold callWith
  refine wpP_bind (wpP_holding (wpP_mono (argsP (Q := fun x s₁ => (∃ o fd, s₁.heap.get? a = some o ∧ o.data = .func fd) ∧ wpP P M A (call (.ref a) x.pos x.kw) Q E s₁) h he) (fun x s₁ h₁ => wpP_bind (wpP_standAt ?_)) fun _ _ x => x))
  have tail : ∀ {t : Sem Value}, wpP P M A t Q E s₁ → wpP P M A (t >>= fun r => holding [r] point >>= fun _ => pure r) Q E s₁ :=
    fun ht => wpP_bind (wpP_mono ht (fun r s₂ hr => wpP_bind (wpP_holding (.of_any (wpAny_point (wpP_pure hr))))) fun _ _ x => x)
  simp only [hplain, List.any_nil, Bool.or_false]
  obtain ⟨⟨o, fd, ho, hd⟩, h₁⟩ := h₁
  refine wpP_bind (m := keeperOf (.ref a)) ?_
  unfold keeperOf
  refine wpP_bindA (wpAny_load ho ?_)
  rw [hd]
  refine wpP_pure ?_
  dsimp only
  split
  · exact tail h₁
  · exact tail (by unfold callMarked; exact wpP_keep h₁)
end
section
variable {P : Ctx → Prop} {prog : Program} {w : World} {A : Around} {s : Shared} {R : Result → Shared → Prop}
theorem codeP_func (K : Kept P) {body : List Stmt} {env : Env} (h : wpP P (model prog w) (A.deeper env) (execs body env) (fun f s' => R (.ok (.ret (match f with | .ret v => v | _ => .none))) s') (fun _ _ => False) s) :
    codeP P (model prog w) A (.func body env) R s := by
  refine codeP_of_tree K ?_
  show wpP P _ (A.deeper env) (do point; match ← (execs body env).onRaise (leaving env) with | .ret v => ret v | _ => ret .none) _ _ s
  refine wpP_bindA (wpAny_point (wpP_bind (wpP_onRaise (wpP_mono h (fun f s' h' => ?_) fun _ _ x => x))))
  cases f <;> exact wpP_pure h'
theorem codeP_call_function (K : Kept P) {a : Addr} {args : Args} {o : Obj} {fd : FuncData} {body : List Stmt} (hroom : A.depth < recursionLimit)
    (ho : s.heap.get? a = some o)
    (hd' : o.data = .func fd) (hco : fd.scope.isCoroutine = false) (hgen : fd.scope.isGenerator = false) (hbody : fd.body = .stmts body) (hcd : s.heap.CodeRec fd.code fd.qualname)
    (h : wpAny (model prog w) A.in1 (bindArgs fd args) (fun binds s₁ =>
      wpAny (model prog w) A.in1 (newFunctionEnv fd.scope fd.globals fd.closure binds (fd.qualname ++ ".<locals>.") (some a) fd.code none fd.builtins)
        (fun env s₂ => s₂.heap.NoLimit ∧ codeP P (model prog w) A (.func body env) R s₂) (fun e s' => R (.error e) s') s₁) (fun e s' => R (.error e) s') s) :
    codeP P (model prog w) A (.call (.ref a) args) R s := by
  refine codeP_of_tree K ?_
  show wpP P _ A.in1 (callAny (.ref a) args) _ _ s
  simp only [callAny]
  refine wpP_bindA (wpAny_load ho ?_)
  obtain ⟨c, oc, vs, tq, hc, hoc, hdc, hq⟩ := hcd
  simp only [hd', callFunction, hco, hgen, hbody, hc]
  rw [hc] at h
  refine wpP_bindA (m := field (.ref c) 1) (wpAny_field hoc hdc hq (wpP_bind (wpP_pure ?_)))
  exact wpP_bindA (wpAny_mono h (fun binds s₁ h₁ => wpP_bindA (wpAny_mono h₁ (fun env s₂ h₂ => wpP_bindA (wpAny_enterFrame h₂.1 hroom
    (wpP_pure ⟨rfl, rfl, h₂.2⟩))) fun _ _ h' => h')) fun _ _ h' => h')
end
end Mine
end
section
open PySem PySem.W PyProof.Rows PySem.Calls
set_option maxRecDepth 100000
namespace Mine
section
variable {P : Ctx → Prop} {prog : Program} {w : World} {A₀ A : Around} {s : Shared} {base h₀ : Heap} {outer : List Env} {L : Addr} {m mg mb : Str → Option Value} {env : Env} {news : List (Addr × Obj)} {K : Frag}
  {R : Result → Shared → Prop} {name qual : Str} {params : Arguments} {body : List Stmt} {scope : Scope} {dV kV doc pm cdv ct oc : Value} {an od : Option Addr} {osl : Array (Option Value)} {f : Addr} {args : Args} {binds : List (Str × Value)} {p : Program} {loose : List Str} {mean : ExcName → Option Value}
theorem fn_at {fd : FuncData} (X₀ : K.In h₀) (F : Fr h₀ L s.heap m) (ho : K.lookup f = some ⟨oc, od, .func fd, osl⟩) : ∃ o fd, s.heap.get? f = some o ∧ o.data = .func fd := ⟨_, fd, (X₀.keeps F.keep) _ _ ho, rfl⟩
theorem code_defP (KP : Kept P)
    (B : Below A₀ base outer h₀) (F : Fr h₀ L s.heap m) (X₀ : K.In h₀) (N : News h₀ L s.heap news) (T : Top p loose mean mg mb h₀) (hA : A.frames = some (env :: outer)) (hf : env.frame = some L) (hke : env.scope.kind = .function)
    (ho : K.lookup f = some ⟨oc, od, .func (fnOf name qual params body scope dV kV doc pm an cdv ct), osl⟩) (hcd : codeIn K cdv qual = true) (hroom : A.depth < recursionLimit)
    (hbind : BindsTo s (fnOf name qual params body scope dV kV doc pm an cdv ct) args binds) (hkind : (binds.all fun y => scope.names.lookup y.1 == some .local || scope.names.lookup y.1 == some .cell) = true)
    (hnd : ((cellsFrom 0 scope.names []).map (·.1)).Nodup)
    (h : ∀ g L' h₁ tk cells, Fr h₀ L g m → Fr g L' h₁ (bindL (envOfC qual scope L' f cdv).kindOf binds fun _ => none) → News g L' h₁ (cells ++ news) →
      CellsAre (bindC (envOfC qual scope L' f cdv).kindOf binds fun _ => none) (cellsFrom (L' + 1) scope.names []) cells → Below A base (env :: outer) g → K.In g → Top p loose mean mg mb g → (∀ p ∈ news, p.1 < L') →
      wpP P (model prog w) (A.deeper (envOfC qual scope L' f cdv)) (execs body (envOfC qual scope L' f cdv))
        (fun fl s' => LeaveK h₀ L m g R (match fl with | .ret v => v | _ => .none) s') (fun _ _ => False)
        { s with heap := h₁, toks := tk })
    (hco : scope.isCoroutine = false) (hgen : scope.isGenerator = false) (hk : scope.kind = .function) : codeP P (model prog w) A (.call (.ref f) args) R s := by
  obtain ⟨FG, BG, st, lv⟩ := groundX (R := R) B F N hA hf hke
  refine codeP_call_function KP hroom ((X₀.keeps F.keep) _ _ ho) rfl hco hgen rfl (codeRec_of (X₀.keeps F.keep) hcd) (hbind _ _ _ _ ?_)
  refine wpAny_newFunctionEnv_cells hk (kindsX hkind _) fun env' he s' x => ?_
  subst he
  refine ⟨(T.nolimit.keeps F.keep).keeps x.toInCall.keep, codeP_func KP ?_⟩
  obtain ⟨h₁, tk, rfl, _⟩ := x.done
  have hk₁ := x.toInCall.keep
  obtain ⟨cells, NC, Y⟩ := Cl.news (h₀ := s.heap) (Nat.le_refl _) fun n c hm => ⟨x.cell n c (lookup_of_mem_nodup (cellsFrom_names scope.names 0 (s.heap.objs.size + 1) [] [] rfl ▸ hnd) hm), x.above n c hm⟩
  refine wpP_mono (h _ s.heap.objs.size h₁ tk cells FG ⟨x.toInCall.ns, fun b o e => hk₁ b o (of_hideAll _ e), Nat.le_of_eq (hideAll_size _ _)⟩ (fun p hp => ?_) Y BG (X₀.keeps st) (T.keeps st) (fun p hp => Heap.lt_size (N p hp).1)) (fun fl s' hl => lv _ _ hl) fun _ _ y => y
  rcases List.mem_append.mp hp with hp | hp
  · refine ⟨(NC p hp).1, (NC p hp).2.1, ?_⟩
    cases q : (hideAll s.heap (news.map (·.1))).get? p.1 with
    | none => rfl
    | some o => have := of_hideAll _ q; rw [(NC p hp).2.2] at this; cases this
  · exact ⟨hk₁ _ _ (N p hp).1, Nat.ne_of_lt (Heap.lt_size (N p hp).1), hideAll_none _ (List.mem_map_of_mem hp)⟩
end
end Mine
end
section
open PySem PySem.W PyProof.Rows PySem.Calls
set_option maxRecDepth 100000
namespace Mine
theorem call_cellsP {P : Ctx → Prop} (KP : Kept P) {prog : Program} {w : World} {A : Around} {R : Result → Shared → Prop} {s : Shared} {name : Str} {params : Arguments} {body : List Stmt} {scope : Scope}
    {pm cd doc : Value} {a : Addr} {o : Obj} {args : List Value} {binds : List (Str × Value)}
    (hroom : A.depth < recursionLimit) (ho : s.heap.get? a = some o) (hdata : o.data = .func (Calls.docDef name params body scope pm cd doc)) (hlim : s.heap.NoLimit) (hcd : s.heap.CodeRec cd name)
    (hbind : bindArgs (Calls.docDef name params body scope pm cd doc) ⟨args, []⟩ = pure binds)
    (hkind : ∀ x ∈ binds, scope.names.lookup x.1 = some .local ∨ (scope.names.lookup x.1 = some .cell ∧ ((cellsFrom (s.heap.objs.size + 1) scope.names []).lookup x.1).isSome = true))
    (hnd : ((cellsFrom 0 scope.names []).map (·.1)).Nodup)
    (h : ∀ h₁ tk cells, Fr s.heap s.heap.objs.size h₁ (bindL (envOfC name scope s.heap.objs.size a cd).kindOf binds fun _ => none) → News s.heap s.heap.objs.size h₁ cells →
      CellsAre (bindC (envOfC name scope s.heap.objs.size a cd).kindOf binds fun _ => none) (cellsFrom (s.heap.objs.size + 1) scope.names []) cells →
      wpP P (model prog w) (A.deeper (envOfC name scope s.heap.objs.size a cd)) (execs body (envOfC name scope s.heap.objs.size a cd))
        (fun fl s' => R (.ok (.ret (match fl with | .ret v => v | _ => .none))) s') (fun _ _ => False) { s with heap := h₁, toks := tk })
    (hco : scope.isCoroutine = false := by rfl) (hgen : scope.isGenerator = false := by rfl) (hk : scope.kind = .function := by rfl) :
    codeP P (model prog w) A (.call (.ref a) ⟨args, []⟩) R s := by
  refine codeP_call_function KP hroom ho hdata hco hgen rfl hcd (wpAny_of_eq hbind ?_)
  refine wpAny_newFunctionEnv_cells hk hkind fun env' he s' x => ?_
  subst he
  refine ⟨hlim.keeps x.toInCall.keep, codeP_func KP ?_⟩
  obtain ⟨h₁, tk, rfl, _⟩ := x.done
  obtain ⟨cells, N, Y⟩ := Cl.news (h₀ := s.heap) (Nat.le_refl _) fun n c hm => ⟨x.cell n c (lookup_of_mem_nodup (cellsFrom_names scope.names 0 (s.heap.objs.size + 1) [] [] rfl ▸ hnd) hm), x.above n c hm⟩
  exact h _ _ _ ⟨x.toInCall.ns, x.toInCall.keep, Nat.le_refl _⟩ N Y
end Mine
end
section
open PySem PySem.W PyProof.Rows PySem.Calls
namespace Mine
/-- the common front of two rows -/
noncomputable def lcp {α : Type} [DecidableEq α] : List α → List α → List α
  | x :: xs, y :: ys => if x = y then x :: lcp xs ys else []
  | _, _ => []
section
variable {α : Type} [DecidableEq α]
theorem lcp_comm : ∀ xs ys : List α, lcp xs ys = lcp ys xs
  | [], [] => rfl
  | [], _ :: _ => rfl
  | _ :: _, [] => rfl
  | x :: xs, y :: ys => by
    unfold lcp
    by_cases h : x = y
    · subst h; rw [if_pos rfl, if_pos rfl, lcp_comm xs ys]
    · rw [if_neg h, if_neg (Ne.symm h)]
theorem lcp_self : ∀ xs : List α, lcp xs xs = xs
  | [] => rfl
  | x :: xs => by unfold lcp; rw [if_pos rfl, lcp_self xs]
theorem lcp_at : ∀ (xs ys : List α) (i : Nat), xs.take i = ys.take i → (h1 : i < xs.length) → (h2 : i < ys.length) → xs[i] ≠ ys[i] → lcp xs ys = xs.take i
  | x :: xs, y :: ys, 0, _, _, _, hne => by
    unfold lcp
    rw [if_neg (by simpa using hne)]; rfl
  | x :: xs, y :: ys, i + 1, he, h1, h2, hne => by
    simp only [List.take_succ_cons, List.cons.injEq] at he
    unfold lcp
    rw [if_pos he.1, List.take_succ_cons, lcp_at xs ys i he.2 (by simpa using h1) (by simpa using h2) (by simpa using hne)]
  | [], _, _, _, h1, _, _ => by simp at h1
  | _, [], _, _, _, h2, _ => by simp at h2
theorem lcp_all : ∀ (xs ys : List α), xs.take xs.length = ys.take xs.length → lcp xs ys = xs
  | [], [], _ => rfl
  | [], _ :: _, _ => rfl
  | x :: xs, [], h => by simp at h
  | x :: xs, y :: ys, h => by
    simp only [List.length_cons, List.take_succ_cons, List.cons.injEq] at h
    unfold lcp
    rw [if_pos h.1, lcp_all xs ys h.2]
theorem lcp_mem : ∀ (xs ys : List α) (z : α), z ∈ lcp xs ys → z ∈ xs
  | [], _, z, h => by simp [lcp] at h
  | _ :: _, [], z, h => by simp [lcp] at h
  | x :: xs, y :: ys, z, h => by
    unfold lcp at h
    split at h
    · rcases List.mem_cons.mp h with rfl | h
      · exact List.mem_cons_self
      · exact List.mem_cons_of_mem _ (lcp_mem xs ys z h)
    · simp at h
theorem lcp_len : ∀ (xs ys : List α), (lcp xs ys).length ≤ xs.length
  | [], _ => by simp [lcp]
  | _ :: _, [] => by simp [lcp]
  | x :: xs, y :: ys => by
    unfold lcp
    split
    · simpa using lcp_len xs ys
    · simp
end
/-- the first row does not end behind the second -/
noncomputable def Ordd (xs ys : List (Array UInt8)) : Prop := ∀ i, xs.take i = ys.take i → i < xs.length → i < ys.length
theorem ord_lt : ∀ xs ys : List (Array UInt8), ordL xs ys = .lt → Ordd xs ys
  | [], _, _, i, _, h => by simp at h
  | x :: xs, [], h, _, _, _ => by simp [ordL] at h
  | x :: xs, y :: ys, h, 0, _, _ => by simp
  | x :: xs, y :: ys, h, i + 1, he, hl => by
    simp only [List.take_succ_cons, List.cons.injEq] at he
    rw [ordL, if_pos (by simp [he.1])] at h
    have := ord_lt xs ys h i he.2 (by simpa using hl)
    simpa using this
theorem ord_gt : ∀ xs ys : List (Array UInt8), ordL ys xs = .gt → Ordd xs ys
  | [], _, _, i, _, h => by simp at h
  | x :: xs, [], h, _, _, _ => by simp [ordL] at h
  | x :: xs, y :: ys, h, 0, _, _ => by simp
  | x :: xs, y :: ys, h, i + 1, he, hl => by
    simp only [List.take_succ_cons, List.cons.injEq] at he
    rw [ordL, if_pos (by simp [he.1])] at h
    have := ord_gt xs ys h i he.2 (by simpa using hl)
    simpa using this
theorem ord_eq : ∀ xs ys : List (Array UInt8), ordL xs ys = .eq → xs = ys
  | [], [], _ => rfl
  | [], _ :: _, h => by simp [ordL] at h
  | _ :: _, [], h => by simp [ordL] at h
  | x :: xs, y :: ys, h => by
    rw [ordL] at h
    by_cases he : (x.toList == y.toList) = true
    · rw [if_pos he] at h
      rw [Array.toList_inj.mp (beq_iff_eq.mp he), ord_eq xs ys h]
    · rw [if_neg he] at h
      have := order_eq x.toList y.toList
      rw [h] at this
      exact absurd this.symm he
theorem ordd_refl (xs : List (Array UInt8)) : Ordd xs xs := fun _ _ h => h
/-- what min and max pick -/
theorem minmax {xs ys x1 x2 : List (Array UInt8)} (h1 : x1 = if (ordL ys xs == .lt) = true then ys else xs) (h2 : x2 = if (ordL ys xs == .gt) = true then ys else xs) : Ordd x1 x2 ∧ lcp x1 x2 = lcp xs ys := by
  cases ho : ordL ys xs with
  | lt =>
    rw [ho, if_pos (by decide)] at h1
    rw [ho, if_neg (by decide)] at h2
    subst h1 h2
    exact ⟨ord_lt _ _ ho, lcp_comm _ _⟩
  | gt =>
    rw [ho, if_neg (by decide)] at h1
    rw [ho, if_pos (by decide)] at h2
    subst h1 h2
    exact ⟨ord_gt _ _ ho, rfl⟩
  | eq =>
    rw [ho, if_neg (by decide)] at h1
    rw [ho, if_neg (by decide)] at h2
    subst h1 h2
    have := ord_eq _ _ ho
    subst this
    exact ⟨ordd_refl _, rfl⟩
theorem fold_size : ∀ (bs : List (Array UInt8)) (k : Nat), (∀ x ∈ bs, x.size ≤ 1000) → bs.foldl (· + ·.size) k ≤ k + 1000 * bs.length
  | [], k, _ => by simp
  | b :: bs, k, h => by
    rw [List.foldl_cons]
    have h1 := fold_size bs (k + b.size) fun x hx => h x (List.mem_cons_of_mem _ hx)
    have h2 := h b List.mem_cons_self
    rw [List.length_cons]
    omega
end Mine
end
section
open PySem PySem.W PyProof.Rows PySem.Calls
namespace Mine
open PySem.Builtin
theorem joined_go (sep : Array UInt8) : ∀ (bs : List (Array UInt8)) (k : Nat) (acc : Array UInt8), 0 < k → (bs.zipIdx k).foldl (fun out (p : Array UInt8 × Nat) => (if p.2 > 0 then out ++ sep else out) ++ p.1) acc = bs.foldl (fun a x => (a ++ sep) ++ x) acc
  | [], _, _, _ => rfl
  | b :: bs, k, acc, hk => by
    rw [List.zipIdx_cons, List.foldl_cons, List.foldl_cons, joined_go sep bs (k + 1) _ (Nat.succ_pos k)]
    simp only [gt_iff_lt, hk, if_true]
theorem joined_cons (sep b : Array UInt8) (bs : List (Array UInt8)) : Bytes.joined sep (b :: bs) = bs.foldl (fun a x => (a ++ sep) ++ x) b := by
  unfold Bytes.joined
  rw [List.zipIdx_cons, List.foldl_cons]
  have := joined_go sep bs 1 b (by decide)
  simpa using this
theorem joined_nil (sep : Array UInt8) : Bytes.joined sep [] = #[] := rfl
theorem fold_join_size (sep : Array UInt8) : ∀ (bs : List (Array UInt8)) (acc : Array UInt8), (∀ x ∈ bs, x.size ≤ 1000) → (bs.foldl (fun a x => (a ++ sep) ++ x) acc).size ≤ acc.size + (sep.size + 1000) * bs.length
  | [], acc, _ => by simp
  | b :: bs, acc, h => by
    rw [List.foldl_cons]
    have h1 := fold_join_size sep bs ((acc ++ sep) ++ b) fun x hx => h x (List.mem_cons_of_mem _ hx)
    have h2 := h b List.mem_cons_self
    simp only [Array.size_append] at h1
    rw [List.length_cons, Nat.mul_add]
    omega
theorem joined_size {sep : Array UInt8} (hs : sep.size ≤ 3) {bs : List (Array UInt8)} (h : ∀ x ∈ bs, x.size ≤ 1000) (hl : bs.length ≤ 1010) : (Bytes.joined sep bs).size ≤ 16777216 := by
  cases bs with
  | nil => simp [joined_nil]
  | cons b bs =>
    rw [joined_cons]
    have h1 := fold_join_size sep bs b fun x hx => h x (List.mem_cons_of_mem _ hx)
    have h2 := h b List.mem_cons_self
    rw [List.length_cons] at hl
    have h3 : (sep.size + 1000) * bs.length ≤ 1003 * 1010 := Nat.mul_le_mul (by omega) (by omega)
    omega
theorem joined_sum {sep : Array UInt8} (hs : sep.size ≤ 3) {bs : List (Array UInt8)} (h : ∀ x ∈ bs, x.size ≤ 1000) (hl : bs.length ≤ 1010) : bs.foldl (· + ·.size) (sep.size * (bs.length - 1)) ≤ 16777216 := by
  have h1 := fold_size bs (sep.size * (bs.length - 1)) h
  have h2 : sep.size * (bs.length - 1) ≤ 3 * 1010 := Nat.mul_le_mul hs (by omega)
  omega
/-- what commonpath keeps of the pieces -/
noncomputable def keepB (c : Array UInt8) : Bool := c.size != 0 && c.toList != [46]
theorem keepB_empty {c : Array UInt8} (h : (c.size : Int) = 0) : keepB c = false := by
  have : c.size = 0 := by omega
  unfold keepB; rw [this]; rfl
theorem keepB_dot {c : Array UInt8} (h : ¬ (c.toList != [46]) = true) : keepB c = false := by
  unfold keepB; rw [Bool.eq_false_iff.mpr h, Bool.and_false]
theorem keepB_yes {c : Array UInt8} (h : ¬ (c.size : Int) = 0) (h' : (c.toList != [46]) = true) : keepB c = true := by
  unfold keepB; rw [h', Bool.and_true]
  simp only [bne_iff_ne, ne_eq]
  omega
/-- what commonpath gives of two paths without a root -/
noncomputable def commonRaw (b c : Array UInt8) : List (Array UInt8) := lcp ((splitRaw b #[47]).filter keepB) ((splitRaw c #[47]).filter keepB)
theorem common_small {b c : Array UInt8} (hb : b.size ≤ 1000) : (∀ x ∈ commonRaw b c, x.size ≤ 1000) ∧ (commonRaw b c).length ≤ 1010 := by
  constructor
  · intro x hx
    have := lcp_mem _ _ _ hx
    exact Nat.le_trans (split_size (List.mem_filter.mp this).1) hb
  · refine Nat.le_trans (lcp_len _ _) (Nat.le_trans (List.length_filter_le _ _) ?_)
    have := @split_len b #[47]
    omega
end Mine
end
section
open PySem PySem.W PyProof.Rows PySem.Calls
namespace Mine
/-- the octets turned round, so many of them -/
noncomputable def revPart (b : Array UInt8) : Nat → Array UInt8
  | 0 => Array.replicate b.size 0
  | j + 1 => (revPart b j).setIfInBounds (b.size - 1 - j) (b.getD j 0)
theorem revPart_size (b : Array UInt8) : ∀ j, (revPart b j).size = b.size
  | 0 => by simp [revPart]
  | j + 1 => by simp [revPart, revPart_size b j]
theorem revPart_get (b : Array UInt8) : ∀ j, j ≤ b.size → ∀ k, k < b.size → b.size - j ≤ k → (revPart b j)[k]? = some (b.getD (b.size - 1 - k) 0)
  | 0, _, k, hk, h => by omega
  | j + 1, hj, k, hk, h => by
    rw [revPart, Array.getElem?_setIfInBounds]
    split
    · rename_i e
      rw [if_pos (by rw [revPart_size]; omega)]
      have : b.size - 1 - k = j := by omega
      rw [this]
    · exact revPart_get b j (by omega) k hk (by omega)
theorem revPart_all (b : Array UInt8) : revPart b b.size = b.reverse := by
  apply Array.ext
  · rw [revPart_size, Array.size_reverse]
  · intro k h1 h2
    have hk : k < b.size := by rw [revPart_size] at h1; exact h1
    have := revPart_get b b.size (Nat.le_refl _) k hk (by omega)
    rw [Array.getElem?_eq_getElem h1] at this
    have e := Option.some.inj this
    rw [e, Array.getElem_reverse]
    rw [Array.getD_eq_getD_getElem?, Array.getElem?_eq_getElem (by omega)]
    rfl
end Mine
end
section
set_option maxRecDepth 100000
namespace Mine
section
variable {α : Type} [DecidableEq α]
/-- where a row is the same so much farther on -/
noncomputable def same (xs ys : List α) : List Bool := List.zipWith (fun a b => decide (a = b)) xs ys
theorem lcp_same : ∀ xs ys : List α, (lcp xs ys).length = ((same xs ys).takeWhile id).length
  | [], _ => by simp [lcp, same]
  | _ :: _, [] => by simp [lcp, same]
  | x :: xs, y :: ys => by
    unfold lcp same
    rw [List.zipWith_cons_cons]
    by_cases h : x = y
    · rw [if_pos h, List.takeWhile_cons_of_pos (by simpa using h), List.length_cons, List.length_cons, lcp_same xs ys, same]
    · rw [if_neg h, List.takeWhile_cons_of_neg (by simpa using h)]
      rfl
theorem lcp_take : ∀ xs ys : List α, lcp xs ys = xs.take (lcp xs ys).length
  | [], _ => by simp [lcp]
  | _ :: _, [] => by simp [lcp]
  | x :: xs, y :: ys => by
    unfold lcp
    split
    · rw [List.length_cons, List.take_succ_cons, ← lcp_take xs ys]
    · rfl
theorem same_drop (xs ys : List α) (p : Nat) : same (xs.drop p) (ys.drop p) = (same xs ys).drop p := (List.drop_zipWith).symm
theorem same_take (xs ys : List α) (p : Nat) : same (xs.take p) (ys.take p) = (same xs ys).take p := (List.take_zipWith).symm
theorem same_length (xs ys : List α) : (same xs ys).length = min xs.length ys.length := List.length_zipWith
theorem same_rev {xs ys : List α} (h : xs.length = ys.length) : same xs.reverse ys.reverse = (same xs ys).reverse := (List.reverse_zipWith h).symm
theorem same_cut (xs ys : List α) : same xs ys = same xs (ys.take xs.length) := by
  have : same xs ys = (same xs ys).take xs.length := by
    rw [List.take_of_length_le]
    rw [same_length]; omega
  rw [this, ← same_take, List.take_length]
theorem same_map {β : Type} [DecidableEq β] {f : α → β} (hf : ∀ a b, f a = f b → a = b) : ∀ xs ys : List α, same (xs.map f) (ys.map f) = same xs ys
  | [], _ => by simp [same]
  | _ :: _, [] => by simp [same]
  | x :: xs, y :: ys => by
    have := same_map hf xs ys
    unfold same at this ⊢
    rw [List.map_cons, List.map_cons, List.zipWith_cons_cons, List.zipWith_cons_cons, this]
    congr 1
    by_cases h : x = y
    · simp [h]
    · have h' : f x ≠ f y := fun e => h (hf _ _ e)
      simp [h, h']
theorem eq_same : ∀ {xs ys : List α}, xs.length = ys.length → (xs = ys ↔ (same xs ys).all id = true)
  | [], [], _ => by simp [same]
  | [], _ :: _, h => by simp at h
  | _ :: _, [], h => by simp at h
  | x :: xs, y :: ys, h => by
    have := eq_same (xs := xs) (ys := ys) (by simpa using h)
    unfold same at this ⊢
    rw [List.zipWith_cons_cons, List.all_cons, Bool.and_eq_true, ← this, List.cons.injEq]
    simp
/-- the bits of one size -/
noncomputable def bits (ns : List α) (s : Nat) : List Bool := same ns (ns.drop s)
noncomputable def fwd (bs : List Bool) (p : Nat) : Nat := ((bs.drop p).takeWhile id).length
noncomputable def bwd (bs : List Bool) (p : Nat) : Nat := ((bs.take p).reverse.takeWhile id).length
theorem bits_length (ns : List α) (s : Nat) : (bits ns s).length = ns.length - s := by
  unfold bits
  rw [same_length, List.length_drop, Nat.min_eq_right (Nat.sub_le _ _)]
theorem fwd_lcp (ns : List α) (s p : Nat) : (lcp (ns.drop p) (ns.drop (p + s))).length = fwd (bits ns s) p := by
  rw [lcp_same, fwd, bits, ← same_drop, List.drop_drop, Nat.add_comm s p]
theorem bwd_lcp {β : Type} [DecidableEq β] {f : α → β} (hf : ∀ a b, f a = f b → a = b) {ns : List α} {s p : Nat} (h : p + s ≤ ns.length) :
    (lcp ((ns.take p).reverse.map f) ((ns.take (p + s)).reverse.map f)).length = bwd (bits ns s) p := by
  rw [lcp_same, same_map hf, same_cut, bwd, bits, ← same_take]
  have hp : p ≤ ns.length := Nat.le_trans (Nat.le_add_right p s) h
  have h1 : (ns.take p).reverse.length = p := by rw [List.length_reverse, List.length_take, Nat.min_eq_left hp]
  have h2 : (ns.take (p + s)).reverse.take p = ((ns.drop s).take p).reverse := by
    rw [List.take_reverse, List.length_take, List.drop_take]
    rw [Nat.min_eq_left h, Nat.add_sub_cancel_left, Nat.add_sub_cancel]
  rw [h1, h2, same_rev (by rw [List.length_take, List.length_take, List.length_drop, Nat.min_eq_left hp, Nat.min_eq_left (Nat.le_sub_of_add_le h)])]
theorem part_same {ns : List α} {s f l : Nat} (hl : l ≤ ns.length) (hf : f + s ≤ l) : (ns.take (l - s)).drop f = (ns.take l).drop (f + s) ↔ (((bits ns s).drop f).take (l - s - f)).all id = true := by
  rw [eq_same (by rw [List.length_drop, List.length_drop, List.length_take, List.length_take, Nat.min_eq_left hl, Nat.min_eq_left (Nat.le_trans (Nat.sub_le _ _) hl), Nat.sub_sub, Nat.add_comm s f]), bits, ← same_drop, List.drop_drop, ← same_take, List.drop_take, List.drop_take, Nat.add_comm s f]
  have : l - (f + s) = l - s - f := by rw [Nat.add_comm, Nat.sub_sub]
  rw [this]
end
abbrev T2 := Nat × Nat
abbrev T3 := Nat × Nat × Nat
/-- a turn of the search -/
noncomputable def fStep (s : Nat) (bs : List Bool) (acc : List T3) (p : Nat) : List T3 :=
  if p - bwd bs p + s ≤ p + fwd bs p ∧ (s, p - bwd bs p, p + fwd bs p + s) ∉ acc then acc ++ [(s, p - bwd bs p, p + fwd bs p + s)] else acc
noncomputable def placesN (s : Nat) : Nat := 7 / s
noncomputable def fLoop (s : Nat) (bs : List Bool) (acc : List T3) (k : Nat) : List T3 := (List.range k).foldl (fun acc j => fStep s bs acc (j * s)) acc
/-- all stretches of one size -/
noncomputable def whIn (s : Nat) (bs : List Bool) (f l : Nat) : Bool := ((bs.drop f).take (l - s - f)).all id
noncomputable def whRow (s : Nat) (bs : List Bool) (f : Nat) (k : Nat) : List T2 := ((List.range k).map fun j => (f, f + 2 * s + j)).filter fun q => whIn s bs q.1 q.2
noncomputable def wh (s : Nat) (bs : List Bool) (k : Nat) : List T2 := (List.range k).flatMap fun f => whRow s bs f (9 - (f + 2 * s))
noncomputable def duOk (w : List T2) (q : T2) : Bool := !(decide (q.1 ≠ 0 ∧ (q.1 - 1, q.2) ∈ w)) && !(decide ((q.1, q.2 + 1) ∈ w))
noncomputable def du (s : Nat) (bs : List Bool) : List T3 := ((wh s bs 8).filter (duOk (wh s bs 8))).map fun q => (s, q.1, q.2)
theorem fStep_app {s : Nat} {bs : List Bool} {pre acc : List T3} {p : Nat} (h : ∀ t ∈ pre, t.1 ≠ s) : fStep s bs (pre ++ acc) p = pre ++ fStep s bs acc p := by
  unfold fStep
  have : ∀ t : T3, t.1 = s → (t ∈ pre ++ acc ↔ t ∈ acc) := fun t ht => by
    rw [List.mem_append]
    exact ⟨fun x => x.resolve_left fun y => h t y ht, .inr⟩
  by_cases hc : p - bwd bs p + s ≤ p + fwd bs p ∧ (s, p - bwd bs p, p + fwd bs p + s) ∉ acc
  · rw [if_pos hc, if_pos ⟨hc.1, fun x => hc.2 ((this _ rfl).mp x)⟩, List.append_assoc]
  · rw [if_neg hc, if_neg fun x => hc ⟨x.1, fun y => x.2 ((this _ rfl).mpr y)⟩]
theorem fold_app {s : Nat} {bs : List Bool} {pre : List T3} (h : ∀ t ∈ pre, t.1 ≠ s) : ∀ (l : List Nat) (acc : List T3), l.foldl (fun acc j => fStep s bs acc (j * s)) (pre ++ acc) = pre ++ l.foldl (fun acc j => fStep s bs acc (j * s)) acc
  | [], _ => rfl
  | j :: l, acc => by rw [List.foldl_cons, List.foldl_cons, fStep_app h, fold_app h l]
/-- all rows of so many bits -/
noncomputable def allB : Nat → List (List Bool)
  | 0 => [[]]
  | n + 1 => (allB n).flatMap fun b => [false :: b, true :: b]
theorem allB_mem : ∀ b : List Bool, b ∈ allB b.length
  | [] => by simp [allB]
  | x :: b => by
    rw [List.length_cons, allB, List.mem_flatMap]
    exact ⟨b, allB_mem b, by cases x <;> simp⟩
noncomputable def sizeOk (s : Nat) (bs : List Bool) : Bool := decide (fLoop s bs [] (placesN s) = du s bs)
theorem ok1 : (allB 7).all (sizeOk 1) = true := by decide +kernel
theorem ok2 : (allB 6).all (sizeOk 2) = true := by decide +kernel
theorem ok3 : (allB 5).all (sizeOk 3) = true := by decide +kernel
theorem ok4 : (allB 4).all (sizeOk 4) = true := by decide +kernel
theorem size_ok4 {s : Nat} {bs : List Bool} (hs : 1 ≤ s ∧ s ≤ 4) (hl : bs.length = 8 - s) : fLoop s bs [] (placesN s) = du s bs := by
  have hm := allB_mem bs
  have : s = 1 ∨ s = 2 ∨ s = 3 ∨ s = 4 := by omega
  rw [hl] at hm
  rcases this with rfl | rfl | rfl | rfl
  · exact of_decide_eq_true (List.all_eq_true.mp ok1 bs hm)
  · exact of_decide_eq_true (List.all_eq_true.mp ok2 bs hm)
  · exact of_decide_eq_true (List.all_eq_true.mp ok3 bs hm)
  · exact of_decide_eq_true (List.all_eq_true.mp ok4 bs hm)
section
variable {α : Type} [DecidableEq α]
noncomputable def foundN (ns : List α) : Nat → List T3
  | 0 => []
  | k + 1 => fLoop (k + 1) (bits ns (k + 1)) (foundN ns k) (placesN (k + 1))
noncomputable def dueN (ns : List α) : Nat → List T3
  | 0 => []
  | k + 1 => dueN ns k ++ du (k + 1) (bits ns (k + 1))
theorem due_heads (ns : List α) : ∀ k, ∀ t ∈ dueN ns k, t.1 ≤ k
  | 0, t, h => by simp [dueN] at h
  | k + 1, t, h => by
    rcases List.mem_append.mp h with h | h
    · have := due_heads ns k t h; omega
    · obtain ⟨q, _, rfl⟩ := List.mem_map.mp h
      exact Nat.le_refl _
theorem found_due {ns : List α} (hn : ns.length = 8) : ∀ k, k ≤ 4 → foundN ns k = dueN ns k
  | 0, _ => rfl
  | k + 1, h => by
    rw [foundN, dueN, found_due hn k (by omega), fLoop]
    have := fold_app (s := k + 1) (bs := bits ns (k + 1)) (pre := dueN ns k) (fun t ht => by have := due_heads ns k t ht; omega) (List.range (placesN (k + 1))) []
    rw [List.append_nil] at this
    rw [this]
    exact congrArg _ (size_ok4 ⟨by omega, by omega⟩ (by rw [bits_length, hn]))
end
end Mine
end
section
open PySem PySem.W PyProof.Rows PySem.Calls
namespace Mine
open PySem.Builtin
/-- a step of a split at slashes -/
noncomputable def splStep (p : List (Array UInt8) × List UInt8) (c : UInt8) : List (Array UInt8) × List UInt8 := if c = 47 then (p.1 ++ [p.2.toArray], []) else (p.1, p.2 ++ [c])
noncomputable def splFin (p : List (Array UInt8) × List UInt8) : List (Array UInt8) := p.1 ++ [p.2.toArray]
theorem one_at (b : Array UInt8) (i : Nat) (hi : i < b.size) : (b.extract i (i + (#[47] : Array UInt8).size) == #[47]) = (b[i] == 47) := by
  have : b.extract i (i + (#[47] : Array UInt8).size) = #[b[i]] := by
    apply Array.ext
    · simp; omega
    · intro j h1 h2
      have : j = 0 := by simpa using h2
      subst this
      simp
  rw [this, Bool.eq_iff_iff]
  simp
/-- the places of the slashes in the first n octets -/
noncomputable def slashes (b : Array UInt8) (n : Nat) : List Nat := (List.range n).filter fun i => b[i]? == some 47
theorem slashes_succ (b : Array UInt8) (n : Nat) : slashes b (n + 1) = slashes b n ++ (if b[n]? == some 47 then [n] else []) := by
  unfold slashes
  rw [List.range_succ, List.filter_append]
  congr 1
  rw [List.filter_cons]
  rfl
theorem occ_fold (b : Array UInt8) : ∀ n, n ≤ b.size → ∃ last, last ≤ n ∧ (List.range n).foldl (fun (acc : List Nat × Nat) (i : Nat) => if i ≥ acc.2 && b.extract i (i + (#[47] : Array UInt8).size) == #[47] then (i :: acc.1, i + (#[47] : Array UInt8).size) else acc) ([], 0) = ((slashes b n).reverse, last)
  | 0, _ => ⟨0, Nat.le_refl _, rfl⟩
  | n + 1, h => by
    obtain ⟨last, hl, e⟩ := occ_fold b n (by omega)
    rw [List.range_succ, List.foldl_append, e, List.foldl_cons, List.foldl_nil, one_at b n (by omega), slashes_succ]
    have hn : b[n]? = some b[n] := Array.getElem?_eq_getElem (by omega)
    rw [hn]
    by_cases hc : b[n] = 47
    · refine ⟨n + 1, Nat.le_refl _, ?_⟩
      simp [hc, hl]
    · refine ⟨last, by omega, ?_⟩
      simp [hc]
theorem occ_eq (b : Array UInt8) : Bytes.occurrences b #[47] 0 b.size = slashes b b.size := by
  unfold Bytes.occurrences
  obtain ⟨last, _, e⟩ := occ_fold b b.size (Nat.le_refl _)
  have h1 : b.size + 1 - (0 + (#[47] : Array UInt8).size) = b.size := by simp
  have h2 : (List.range b.size).map (· + 0) = List.range b.size := by simp
  dsimp only
  rw [h1, h2, e]
  simp
theorem slashes_len (b : Array UInt8) (n : Nat) : (slashes b n).length ≤ n := by
  unfold slashes
  exact Nat.le_trans (List.length_filter_le _ _) (by simp)
theorem places_eq (b : Array UInt8) : placesRaw b #[47] = slashes b b.size := by
  unfold placesRaw
  rw [occ_eq, List.take_of_length_le]
  have := slashes_len b b.size
  omega
theorem between_fold (b : Array UInt8) : ∀ n, n ≤ b.size → ∃ (ps : Array (Array UInt8)) (last : Nat), last ≤ n ∧ (slashes b n).foldl (fun (x : Array (Array UInt8) × Nat) p => (x.1.push (b.extract x.2 p), p + 1)) ((#[] : Array (Array UInt8)), 0) = (ps, last) ∧ (b.toList.take n).foldl splStep ([], []) = (ps.toList, (b.extract last n).toList)
  | 0, _ => ⟨#[], 0, Nat.le_refl _, rfl, by simp⟩
  | n + 1, h => by
    obtain ⟨ps, last, hl, e, f⟩ := between_fold b n (by omega)
    have hn : b[n]? = some b[n] := Array.getElem?_eq_getElem (by omega)
    have ht : b.toList.take (n + 1) = b.toList.take n ++ [b[n]] := by
      rw [List.take_add_one]
      simp [hn]
    rw [slashes_succ, List.foldl_append, e, ht, List.foldl_append, f, hn, List.foldl_cons, List.foldl_nil]
    by_cases hc : b[n] = 47
    · refine ⟨ps.push (b.extract last n), n + 1, Nat.le_refl _, ?_, ?_⟩
      · simp [hc]
      · unfold splStep
        rw [if_pos hc, Array.toList_push]
        show (ps.toList ++ [(b.extract last n).toList.toArray], []) = (ps.toList ++ [b.extract last n], (b.extract (n + 1) (n + 1)).toList)
        rw [Array.toArray_toList]
        simp
    · refine ⟨ps, last, by omega, ?_, ?_⟩
      · simp [hc]
      · unfold splStep
        rw [if_neg hc]
        have : b.extract last (n + 1) = b.extract last n ++ #[b[n]] := by
          apply Array.ext
          · simp; omega
          · intro j h1 h2
            simp at h1
            by_cases hj : last + j < n
            · rw [Array.getElem_append_left (by simp; omega)]
              simp
            · have : last + j = n := by omega
              rw [Array.getElem_append_right (by simp; omega)]
              simp [this]
        rw [this, Array.toList_append]
theorem split_eq (b : Array UInt8) : splitRaw b #[47] = splFin (b.toList.foldl splStep ([], [])) := by
  obtain ⟨ps, last, hl, e, f⟩ := between_fold b b.size (Nat.le_refl _)
  have ht : b.toList.take b.size = b.toList := List.take_of_length_le (by simp)
  rw [ht] at f
  have hb : Bytes.between b (#[47] : Array UInt8).size (slashes b b.size) = splFin (b.toList.foldl splStep ([], [])) := by
    unfold Bytes.between
    show (let (parts, last) := (slashes b b.size).foldl (fun (x : Array (Array UInt8) × Nat) p => (x.1.push (b.extract x.2 p), p + 1)) ((#[] : Array (Array UInt8)), 0); (parts.push (b.extract last b.size)).toList) = _
    rw [e, f]
    show (ps.push (b.extract last b.size)).toList = ps.toList ++ [(b.extract last b.size).toList.toArray]
    rw [Array.toArray_toList, Array.toList_push]
  unfold splitRaw
  rw [places_eq]
  split
  · rename_i hh
    rw [← hb]
    have : slashes b b.size = [] := by simpa using hh
    rw [this]
    simp [Bytes.between]
  · exact hb
/-- a good name: some octets, each a or b -/
noncomputable def Good (b : Array UInt8) : Prop := b ≠ #[] ∧ ∀ c ∈ b.toList, c = 97 ∨ c = 98
theorem Good.rev {b : Array UInt8} (h : Good b) : Good b.reverse := ⟨fun e => h.1 (by simpa using e), fun c hc => h.2 c (by simpa using hc)⟩
theorem Good.pos {b : Array UInt8} (h : Good b) : 0 < b.size := by
  rcases Nat.eq_zero_or_pos b.size with e | e
  · exact absurd (Array.eq_empty_of_size_eq_zero e) h.1
  · exact e
theorem Good.no {b : Array UInt8} (h : Good b) : ∀ c ∈ b.toList, c ≠ 47 := fun c hc => by
  rcases h.2 c hc with rfl | rfl <;> decide
theorem spl_no : ∀ (l : List UInt8) (a : List (Array UInt8)) (cur : List UInt8), (∀ c ∈ l, c ≠ 47) → l.foldl splStep (a, cur) = (a, cur ++ l)
  | [], a, cur, _ => by simp
  | c :: l, a, cur, h => by
    rw [List.foldl_cons]
    unfold splStep
    rw [if_neg (h c List.mem_cons_self)]
    have := spl_no l a (cur ++ [c]) fun x hx => h x (List.mem_cons_of_mem _ hx)
    unfold splStep at this
    rw [this]
    simp
theorem joined_list (sep : Array UInt8) : ∀ (bs : List (Array UInt8)) (b : Array UInt8), (bs.foldl (fun a x => (a ++ sep) ++ x) b).toList = b.toList ++ bs.flatMap fun x => sep.toList ++ x.toList
  | [], b => by simp
  | c :: bs, b => by
    rw [List.foldl_cons, joined_list sep bs]
    simp
theorem joined_toList (sep b : Array UInt8) (bs : List (Array UInt8)) : (Bytes.joined sep (b :: bs)).toList = b.toList ++ bs.flatMap fun x => sep.toList ++ x.toList := by
  rw [joined_cons, joined_list]
/-- the split of a row glued by a separator: pieces of the separator between -/
theorem spl_flat {sl : List UInt8} {mid : List (Array UInt8)} (hs : ∀ a cur, sl.foldl splStep (a, cur) = (a ++ cur.toArray :: mid, [])) :
    ∀ (bs : List (Array UInt8)) (a : List (Array UInt8)) (cur : List UInt8), (∀ x ∈ bs, ∀ c ∈ x.toList, c ≠ 47) →
      splFin ((bs.flatMap fun x => sl ++ x.toList).foldl splStep (a, cur)) = a ++ cur.toArray :: bs.flatMap fun x => mid ++ [x]
  | [], a, cur, _ => by simp [splFin]
  | x :: bs, a, cur, h => by
    rw [List.flatMap_cons, List.foldl_append, List.foldl_append, hs, spl_no _ _ _ (h x List.mem_cons_self), spl_flat hs bs _ _ fun y hy => h y (List.mem_cons_of_mem _ hy)]
    simp
theorem split_joined {sep : Array UInt8} {mid : List (Array UInt8)} (hs : ∀ a cur, sep.toList.foldl splStep (a, cur) = (a ++ cur.toArray :: mid, [])) {b : Array UInt8} {bs : List (Array UInt8)} (h : ∀ x ∈ b :: bs, ∀ c ∈ x.toList, c ≠ 47) :
    splitRaw (Bytes.joined sep (b :: bs)) #[47] = b :: bs.flatMap fun x => mid ++ [x] := by
  rw [split_eq, joined_toList, List.foldl_append, spl_no _ _ _ (h b List.mem_cons_self), spl_flat hs bs _ _ fun y hy => h y (List.mem_cons_of_mem _ hy)]
  simp
theorem step1 (a : List (Array UInt8)) (cur : List UInt8) : (#[47] : Array UInt8).toList.foldl splStep (a, cur) = (a ++ cur.toArray :: [], []) := by simp [splStep]
theorem step2 (a : List (Array UInt8)) (cur : List UInt8) : (#[47, 47] : Array UInt8).toList.foldl splStep (a, cur) = (a ++ cur.toArray :: [#[]], []) := by simp [splStep]
theorem step3 (a : List (Array UInt8)) (cur : List UInt8) : (#[47, 46, 47] : Array UInt8).toList.foldl splStep (a, cur) = (a ++ cur.toArray :: [#[46]], []) := by simp [splStep]
/-- names glued by a slash -/
noncomputable def J (xs : List (Array UInt8)) : Array UInt8 := Bytes.joined #[47] xs
theorem J_split {xs : List (Array UInt8)} (h : ∀ x ∈ xs, Good x) : splitRaw (J xs) #[47] = if xs = [] then [#[]] else xs := by
  cases xs with
  | nil => rw [if_pos rfl]; unfold J; rw [joined_nil, split_eq]; rfl
  | cons b bs =>
    rw [if_neg (by simp)]
    unfold J
    rw [split_joined step1 fun x hx => (h x hx).no]
    simp
theorem keep_good {x : Array UInt8} (h : Good x) : keepB x = true := by
  have h1 := h.pos
  unfold keepB
  simp only [Bool.and_eq_true, bne_iff_ne, ne_eq]
  refine ⟨by omega, fun e => ?_⟩
  have := h.2 46 (by rw [e]; simp)
  rcases this with h | h <;> exact absurd h (by decide)
theorem filter_mid {mid : List (Array UInt8)} (hm : ∀ x ∈ mid, keepB x = false) : ∀ {bs : List (Array UInt8)}, (∀ x ∈ bs, Good x) → (bs.flatMap fun x => mid ++ [x]).filter keepB = bs
  | [], _ => rfl
  | x :: bs, h => by
    rw [List.flatMap_cons, List.filter_append, List.filter_append, filter_mid hm fun y hy => h y (List.mem_cons_of_mem _ hy), List.filter_eq_nil_iff.mpr fun y hy => by simp [hm y hy]]
    simp [keep_good (h x List.mem_cons_self)]
theorem common_part {sep : Array UInt8} {mid : List (Array UInt8)} (hs : ∀ a cur, sep.toList.foldl splStep (a, cur) = (a ++ cur.toArray :: mid, [])) (hm : ∀ x ∈ mid, keepB x = false) {xs : List (Array UInt8)} (h : ∀ x ∈ xs, Good x) :
    (splitRaw (Bytes.joined sep (splitRaw (J xs) #[47])) #[47]).filter keepB = xs := by
  rw [J_split h]
  cases xs with
  | nil =>
    rw [if_pos rfl, split_joined hs (by simp)]
    rfl
  | cons b bs =>
    rw [if_neg (by simp), split_joined hs fun x hx => (h x hx).no, List.filter_cons, if_pos (keep_good (h b List.mem_cons_self)), filter_mid hm fun y hy => h y (List.mem_cons_of_mem _ hy)]
theorem commonJ {xs ys : List (Array UInt8)} (hx : ∀ x ∈ xs, Good x) (hy : ∀ x ∈ ys, Good x) :
    commonRaw (Bytes.joined #[47, 47] (splitRaw (J xs) #[47])) (Bytes.joined #[47, 46, 47] (splitRaw (J ys) #[47])) = lcp xs ys := by
  unfold commonRaw
  rw [common_part step2 (by decide) hx, common_part step3 (by decide) hy]
end Mine
end
section
open PySem PySem.W PyProof.Rows
namespace Mine
/-- a call's contract: from any frame of a def, for any ledger, it comes back with a value that R takes, the frame and the ledger as they were -/
noncomputable def Claim (D U : Nat) (f : Addr) (vs : List PySem.Value) (R : PySem.Value → Prop) : Prop :=
  ∀ (w : World) (mean : ExcName → Option PySem.Value) (mg mb : Str → Option PySem.Value) (news : List (Addr × Obj)) (dp un : Nat) (gd : Option (List Code)) (cn : Str) (cs : Scope) (a : Addr) (ccd : PySem.Value) (cl : List (Str × Addr)) (outer : List Env) (A₀ : Around) (base h₀ : Heap) (L : Addr) (m : Str → Option PySem.Value) (s : Shared) (Q E : PySem.Value → Shared → Prop),
    Below A₀ base outer h₀ → Fr h₀ L s.heap m → (Mine.lawK w.params).In h₀ → News h₀ L s.heap news → Top Mine.hd.view_1_2 (looseW Mine.hd.view_1_2 []) mean mg mb h₀ → cs.kind = .function →
    dp + D < recursionLimit → un + U < cLine →
    (∀ (v : PySem.Value) (h' : Heap) (tk' : Nat), R v → Fr h₀ L h' m → News h₀ L h' news → Q v { s with heap := h', toks := tk' }) →
    wpAny (model PySem.Challenge.rw_pd0128_01.row.prog w) (ktrTop dp un gd cn cs L a ccd cl outer) (call (.ref f) vs) Q E s
/-- the contract of a call that makes a list -/
noncomputable def ClaimL (D U : Nat) (f : Addr) (vs : List PySem.Value) (R : List PySem.Value → Prop) : Prop :=
  ∀ (w : World) (mean : ExcName → Option PySem.Value) (mg mb : Str → Option PySem.Value) (news : List (Addr × Obj)) (dp un : Nat) (gd : Option (List Code)) (cn : Str) (cs : Scope) (a : Addr) (ccd : PySem.Value) (cl : List (Str × Addr)) (outer : List Env) (A₀ : Around) (base h₀ : Heap) (L : Addr) (m : Str → Option PySem.Value) (s : Shared) (Q E : PySem.Value → Shared → Prop),
    Below A₀ base outer h₀ → Fr h₀ L s.heap m → (Mine.lawK w.params).In h₀ → News h₀ L s.heap news → Top Mine.hd.view_1_2 (looseW Mine.hd.view_1_2 []) mean mg mb h₀ → cs.kind = .function →
    dp + D < recursionLimit → un + U < cLine →
    (∀ (l : Addr) (ws : List PySem.Value) (n : Nat) (h' : Heap) (tk' : Nat), R ws → Fr h₀ L h' m → News h₀ L h' ((l, listOf ws.toArray n) :: news) → (∀ p ∈ news, p.1 < l) → Q (.ref l) { s with heap := h', toks := tk' }) →
    wpAny (model PySem.Challenge.rw_pd0128_01.row.prog w) (ktrTop dp un gd cn cs L a ccd cl outer) (call (.ref f) vs) Q E s
end Mine
end
section
open PySem PySem.W PyProof.Rows
namespace Mine
local macro_rules | `(tactic| walk_at "call type:type") => `(tactic| (k_here; (with_reducible show wpAny _ _ (call (Value.type "type") [Value.bytes _ _]) _ _ _); (refine type_bytes ?_)))
local macro_rules | `(tactic| walk_at "call builtin:issubclass") => `(tactic| (k_here; (with_reducible show wpAny _ _ (call (Value.builtin "issubclass") [Value.type "bytes", Value.ref _]) _ _ _); k_dflt (refine' issub_N ?k1 ?k2 ?_; (case k1 => k_asm); (case k2 => k_mem))))
local macro_rules | `(tactic| walk_at "mine:news") => `(tactic| first | assumption | (refine cb_drop (by assumption) ?_; intro p hp; repeat (first | exact hp | refine List.mem_cons_of_mem _ ?_)))
set_option maxRecDepth 100000 in
set_option maxHeartbeats 4000000 in
theorem get_sep_ok (b : Array UInt8) (t : Tok) : Claim 1 8 108 [.bytes b t] (fun v => ∃ t', v = .bytes #[47] t') := by
  unfold Claim
  k_fill
  intro w mean mg mb news dp un gd cn cs a ccd cl outer A₀ base h₀ L m s Q E B F X N T hk hd hu hret
  refine wpAny_call ?_
  k_dflt cell_enter
  k_steps
  all_goals (refine hret _ _ _ ⟨_, rfl⟩ ?_ ?_ <;> assumption)
set_option maxRecDepth 100000 in
set_option maxHeartbeats 4000000 in
theorem fspath_ok (b : Array UInt8) (t : Tok) : Claim 1 8 94 [.bytes b t] (fun v => v = .bytes b t) := by
  unfold Claim
  k_fill
  intro w mean mg mb news dp un gd cn cs a ccd cl outer A₀ base h₀ L m s Q E B F X N T hk hd hu hret
  refine wpAny_call ?_
  k_dflt cell_enter
  k_steps
  all_goals (refine hret _ _ _ rfl ?f ?n; (case f => assumption); (case n => walk_at "mine:news"))
end Mine
end
section
open PySem PySem.W PyProof.Rows
namespace Mine
local macro_rules | `(tactic| walk_at $s:str) => do let t := Lean.Syntax.mkStrLit ("m:" ++ s.getString); `(tactic| k_extra $t)
local macro_rules | `(tactic| k_all) => `(tactic| k_extra "m:mine:k_all")
local macro_rules | `(tactic| k_ne) => `(tactic| k_extra "m:mine:k_ne")
local macro_rules | `(tactic| passes_own) => `(tactic| k_extra "m:mine:passes_own")
theorem rules_C2 : True := by
  k_with_none
  k_with "m:call type:type" => (k_here; (with_reducible show wpAny _ _ (call (Value.type "type") [Value.bytes _ _]) _ _ _); (refine type_bytes ?_))
  k_with "m:call builtin:issubclass" => (k_here; (show wpAny _ _ (call (Value.builtin "issubclass") [Value.type "bytes", Value.ref _]) _ _ _); k_dflt (refine' issub_N (by (k_asm)) (by (k_mem)) ?_))
  k_with "m:mine:news" => first | assumption | (refine cb_drop (by assumption) ?_; intro p hp; repeat (first | exact hp | refine List.mem_cons_of_mem _ ?_))
  k_with "m:mine:size" => first | omega | (simp only [Array.size_append, List.size_toArray, List.length_cons, List.length_nil] at *; omega)
  k_with "m:getMethod bytes" => (k_here; (with_reducible first | refine meth FB.slot_bytes_startswith FB.type_bytes_startswith ?_ | refine meth FB.slot_bytes_endswith FB.type_bytes_endswith ?_ | refine meth slot_rfind type_rfind ?_ | refine meth slot_rstrip type_rstrip ?_ | refine meth slot_split type_split ?_ | refine meth slot_join type_join ?_))
  k_with "m:call builtin:bytes.startswith" => (k_here; (show wpAny _ _ (call (Value.builtin "bytes.startswith") [Value.bytes _ _, Value.bytes _ _]) _ _ _); (refine call_starts ?_))
  k_with "m:call builtin:bytes.endswith" => (k_here; (show wpAny _ _ (call (Value.builtin "bytes.endswith") [Value.bytes _ _, Value.bytes _ _]) _ _ _); (refine call_ends ?_))
  k_with "m:call builtin:bytes.rfind" => (k_here; (show wpAny _ _ (call (Value.builtin "bytes.rfind") [Value.bytes _ _, Value.bytes _ _]) _ _ _); (refine call_rfind ?_))
  k_with "m:call builtin:bytes.rstrip" => (k_here; (show wpAny _ _ (call (Value.builtin "bytes.rstrip") [Value.bytes _ _, Value.bytes _ _]) _ _ _); (refine call_rstrip (by walk_at "mine:size") ?_); intro _ _)
  k_with "m:truthy bytes" => (k_here; (with_reducible show wpAny _ _ (truthy (Value.bytes _ _)) _ _ _); (refine truthy_bytes (by walk_at "mine:size") ?_))
  k_with "m:call builtin:len" => (k_here; (show wpAny _ _ (call (Value.builtin "len") [Value.bytes _ _]) _ _ _); (refine len_bytes (by walk_at "mine:size") ?_))
  k_with "m:subscriptTail" => (k_here; (with_reducible show wpAny _ _ (subscriptTail _ (Expr.Slice _ _ none _) (Value.bytes _ _) (Value.ref _)) _ _ _); (with_reducible rename Fr _ _ _ _ => F'); (with_reducible rename News _ _ _ _ => N'); (refine slice_B (s := ⟨_, _, _, _, _⟩) F' N' (by constructor) (by constructor) (by walk_at "mine:size") ?_); intro _ _ _ F' N' hsz')
  k_with "m:binaryOp Mult bytes int" => (k_here; (with_reducible show wpAny _ _ (binaryOp Operator.Mult (Value.bytes _ _) (Value.int _ _)) _ _ _); (refine mul_one (by omega) (by walk_at "mine:size") ?_); intro _ _)
  k_with "m:binaryOp Add bytes bytes" => (k_here; (with_reducible show wpAny _ _ (binaryOp Operator.Add (Value.bytes _ _) (Value.bytes _ _)) _ _ _); (refine KBy.add_bytes (by walk_at "mine:size") ?_); intro _ _)
  k_with "m:compareOp NotEq bytes bytes" => (k_here; (refine ne_bytes ?_))
  k_with "m:compareOp Eq bytes bytes" => (k_here; (refine eq_bytes ?_))
  k_with "m:exec Try" => (k_here; (refine Try_calm ?_))
  k_with "m:mine:passes_own" => exact fun _ _ h => (show False from h).elim
  k_with "m:inplaceOp Add" => (k_here; (with_reducible show wpAny _ _ (inplaceOp Operator.Add (Value.bytes _ _) (Value.bytes _ _)) _ _ _); (refine iadd_bytes (by walk_at "mine:size") ?_); intro _ _)
  k_with "m:call builtin:bytes.split" => (k_here; (show wpAny _ _ (call (Value.builtin "bytes.split") [Value.bytes _ _, Value.bytes _ _]) _ _ _); k_dflt (refine' call_split1 (by (k_asm)) (by (k_asm)) (by (walk_at "mine:size")) ?_); intro l' h' vs' k' hv' hn' F' N' l1'; (try dsimp only))
  k_with "m:call builtin:len" => (k_here; (show wpAny _ _ (call (Value.builtin "len") [Value.ref _]) _ _ _); k_dflt (refine' len_L (by (k_asm)) (by (k_mem)) (by (omega)) ?_); intro _ _)
  k_with "m:mine:at" => with_reducible (first | exact At.here | assumption | exact At.skip (by decide) (by walk_at "mine:at"))
  k_with "m:eval Name" => (k_here; (with_reducible fail_if_success show wpAny _ _ (eval _ (compEnvC _ _ _ _)) _ _ _); (with_reducible fail_if_success show wpAny _ _ (eval _ (compEnv _ _ _)) _ _ _); (with_reducible fail_if_success show wpAny _ _ (eval _ (envOfC _ _ _ _ _)) _ _ _); (with_reducible rename At _ _ _ => hAt'); k_dflt (refine' ldA (by (k_asm)) (by (walk_at "mine:at")) ?_))
  k_with "m:loadName" => (k_here; (with_reducible fail_if_success show wpAny _ _ (loadName (envOfC _ _ _ _ _) _) _ _ _); (with_reducible rename At _ _ _ => hAt'); k_dflt (refine' ldnA (by (k_asm)) (by (walk_at "mine:at")) ?_))
  k_with "m:subscriptTail" => (k_here; (with_reducible show wpAny _ _ (subscriptTail _ _ (Value.ref _) (Value.int (-1) _)) _ _ _); k_dflt (refine' item_last (by (k_asm)) (by (k_mem)) ?_))
  k_with "m:mine:enterC" => (refine' code_defC (by (k_asm)) (by (k_asm)) (by (k_asm)) (by (k_asm)) (by (k_asm)) (by (exact rfl)) (by (exact rfl)) (by (assumption)) (by (k_is)) (by (k_is)) (by (ktr_room)) (by (exact BindsTo.of_eq rfl)) (by (exact rfl)) (by (decide +kernel)) ?_ (by (exact rfl)) (by (exact rfl)) (by (exact rfl)); k_whole; intro g' L' h' tk' cells' FG' F' N' Y' B' X' T' l1; (have hL9 := Lts.mk' l1; (repeat (replace hL9 := Lts.drop hL9))); (try k_lt l1); k_cells Y'; (try simp only [List.cons_append, List.nil_append] at N'); (try dsimp only); (try k_lift B'); (try k_fold))
  k_with "m:call ref" => (k_here; (with_reducible show wpAny _ _ (call (Value.ref 94) [Value.bytes _ _]) _ _ _); k_dflt (refine' Claim.use (fspath_ok _ _) (by (k_asm)) (by (k_asm)) (by (k_asm)) (by (k_asm)) (by (k_asm)) (by (first | exact rfl | assumption)) (by (ktr_room)) (by (ktr_units)) ?_); intro v h' tk' hv F' N'; subst hv; (try dsimp only); (try k_fold))
  k_with "m:call ref" => (k_here; (with_reducible show wpAny _ _ (call (Value.ref 108) [Value.bytes _ _]) _ _ _); k_dflt (refine' Claim.use (get_sep_ok _ _) (by (k_asm)) (by (k_asm)) (by (k_asm)) (by (k_asm)) (by (k_asm)) (by (first | exact rfl | assumption)) (by (ktr_room)) (by (ktr_units)) ?_); intro v h' tk' hv F' N'; (obtain ⟨t9, hv⟩ := hv); subst hv; (try dsimp only); (try k_fold))
  trivial
theorem Claim.use {D U : Nat} {f : Addr} {vs : List PySem.Value} {R : PySem.Value → Prop} (C : Claim D U f vs R) {w : World} {mean : ExcName → Option PySem.Value} {mg mb : Str → Option PySem.Value} {news : List (Addr × Obj)} {dp un : Nat} {gd : Option (List Code)} {cn : Str} {cs : Scope} {a : Addr} {ccd : PySem.Value} {cl : List (Str × Addr)} {outer : List Env} {A₀ : Around} {base h₀ : Heap} {L : Addr} {m : Str → Option PySem.Value} {s : Shared} {Q E : PySem.Value → Shared → Prop}
    (B : Below A₀ base outer h₀) (F : Fr h₀ L s.heap m) (X : (Mine.lawK w.params).In h₀) (N : News h₀ L s.heap news) (T : Top Mine.hd.view_1_2 (looseW Mine.hd.view_1_2 []) mean mg mb h₀) (hk : cs.kind = .function)
    (hd : dp + D < recursionLimit) (hu : un + U < cLine)
    (h : ∀ (v : PySem.Value) (h' : Heap) (tk' : Nat), R v → Fr h₀ L h' m → News h₀ L h' news → Q v { s with heap := h', toks := tk' }) :
    wpAny (model PySem.Challenge.rw_pd0128_01.row.prog w) (ktrTop dp un gd cn cs L a ccd cl outer) (call (.ref f) vs) Q E s :=
  C w mean mg mb news dp un gd cn cs a ccd cl outer A₀ base h₀ L m s Q E B F X N T hk hd hu h
/-- what dirname gives -/
noncomputable def dirRaw (b : Array UInt8) : Array UInt8 :=
  if (((KBy.picked b none (some (rfindRaw b #[47] + 1))).size : Int)) = 0 then KBy.picked b none (some (rfindRaw b #[47] + 1))
  else if ((KBy.picked b none (some (rfindRaw b #[47] + 1))).toList != (List.replicate (((KBy.picked b none (some (rfindRaw b #[47] + 1))).size : Int)).toNat 47).toArray.toList) = true then (rstripRaw (KBy.picked b none (some (rfindRaw b #[47] + 1))) #[47]).toArray
  else KBy.picked b none (some (rfindRaw b #[47] + 1))
set_option maxRecDepth 100000 in
set_option maxHeartbeats 4000000 in
theorem dirname_ok (b : Array UInt8) (t : Tok) (hb : b.size ≤ 1000) : Claim 3 24 122 [.bytes b t] (fun v => ∃ t', v = .bytes (dirRaw b) t') := by
  unfold Claim
  k_fill
  intro w mean mg mb news dp un gd cn cs a ccd cl outer A₀ base h₀ L m s Q E B F X N T hk hd hu hret
  refine wpAny_call ?_
  k_dflt cell_enter
  k_steps
  all_goals (refine hret _ _ _ ⟨_, congrArg (PySem.Value.bytes · _) ?e⟩ ?f ?n; (case f => assumption); (case n => walk_at "mine:news"); (case e => unfold dirRaw; first
    | rw [if_pos (by assumption)]
    | rw [if_neg (by assumption), if_pos (by assumption)]
    | rw [if_neg (by assumption), if_neg (ne_true_of_eq_false (by assumption))]))
theorem rules_C3 : True := by
  k_with_none
  k_with "m:call type:type" => (k_here; (with_reducible show wpAny _ _ (call (Value.type "type") [Value.bytes _ _]) _ _ _); (refine type_bytes ?_))
  k_with "m:call builtin:issubclass" => (k_here; (show wpAny _ _ (call (Value.builtin "issubclass") [Value.type "bytes", Value.ref _]) _ _ _); k_dflt (refine' issub_N (by (k_asm)) (by (k_mem)) ?_))
  k_with "m:mine:news" => first | assumption | (refine cb_drop (by assumption) ?_; intro p hp; repeat (first | exact hp | refine List.mem_cons_of_mem _ ?_))
  k_with "m:mine:size" => first | omega | (simp only [Array.size_append, List.size_toArray, List.length_cons, List.length_nil] at *; omega)
  k_with "m:getMethod bytes" => (k_here; (with_reducible first | refine meth FB.slot_bytes_startswith FB.type_bytes_startswith ?_ | refine meth FB.slot_bytes_endswith FB.type_bytes_endswith ?_ | refine meth slot_rfind type_rfind ?_ | refine meth slot_rstrip type_rstrip ?_ | refine meth slot_split type_split ?_ | refine meth slot_join type_join ?_))
  k_with "m:call builtin:bytes.startswith" => (k_here; (show wpAny _ _ (call (Value.builtin "bytes.startswith") [Value.bytes _ _, Value.bytes _ _]) _ _ _); (refine call_starts ?_))
  k_with "m:call builtin:bytes.endswith" => (k_here; (show wpAny _ _ (call (Value.builtin "bytes.endswith") [Value.bytes _ _, Value.bytes _ _]) _ _ _); (refine call_ends ?_))
  k_with "m:call builtin:bytes.rfind" => (k_here; (show wpAny _ _ (call (Value.builtin "bytes.rfind") [Value.bytes _ _, Value.bytes _ _]) _ _ _); (refine call_rfind ?_))
  k_with "m:call builtin:bytes.rstrip" => (k_here; (show wpAny _ _ (call (Value.builtin "bytes.rstrip") [Value.bytes _ _, Value.bytes _ _]) _ _ _); (refine call_rstrip (by walk_at "mine:size") ?_); intro _ _)
  k_with "m:truthy bytes" => (k_here; (with_reducible show wpAny _ _ (truthy (Value.bytes _ _)) _ _ _); (refine truthy_bytes (by walk_at "mine:size") ?_))
  k_with "m:call builtin:len" => (k_here; (show wpAny _ _ (call (Value.builtin "len") [Value.bytes _ _]) _ _ _); (refine len_bytes (by walk_at "mine:size") ?_))
  k_with "m:subscriptTail" => (k_here; (with_reducible show wpAny _ _ (subscriptTail _ (Expr.Slice _ _ none _) (Value.bytes _ _) (Value.ref _)) _ _ _); (with_reducible rename Fr _ _ _ _ => F'); (with_reducible rename News _ _ _ _ => N'); (refine slice_B (s := ⟨_, _, _, _, _⟩) F' N' (by constructor) (by constructor) (by walk_at "mine:size") ?_); intro _ _ _ F' N' hsz')
  k_with "m:binaryOp Mult bytes int" => (k_here; (with_reducible show wpAny _ _ (binaryOp Operator.Mult (Value.bytes _ _) (Value.int _ _)) _ _ _); (refine mul_one (by omega) (by walk_at "mine:size") ?_); intro _ _)
  k_with "m:binaryOp Add bytes bytes" => (k_here; (with_reducible show wpAny _ _ (binaryOp Operator.Add (Value.bytes _ _) (Value.bytes _ _)) _ _ _); (refine KBy.add_bytes (by walk_at "mine:size") ?_); intro _ _)
  k_with "m:compareOp NotEq bytes bytes" => (k_here; (refine ne_bytes ?_))
  k_with "m:compareOp Eq bytes bytes" => (k_here; (refine eq_bytes ?_))
  k_with "m:exec Try" => (k_here; (refine Try_calm ?_))
  k_with "m:mine:passes_own" => exact fun _ _ h => (show False from h).elim
  k_with "m:inplaceOp Add" => (k_here; (with_reducible show wpAny _ _ (inplaceOp Operator.Add (Value.bytes _ _) (Value.bytes _ _)) _ _ _); (refine iadd_bytes (by walk_at "mine:size") ?_); intro _ _)
  k_with "m:call builtin:bytes.split" => (k_here; (show wpAny _ _ (call (Value.builtin "bytes.split") [Value.bytes _ _, Value.bytes _ _]) _ _ _); k_dflt (refine' call_split1 (by (k_asm)) (by (k_asm)) (by (walk_at "mine:size")) ?_); intro l' h' vs' k' hv' hn' F' N' l1'; (try dsimp only))
  k_with "m:call builtin:len" => (k_here; (show wpAny _ _ (call (Value.builtin "len") [Value.ref _]) _ _ _); k_dflt (refine' len_L (by (k_asm)) (by (k_mem)) (by (omega)) ?_); intro _ _)
  k_with "m:mine:at" => with_reducible (first | exact At.here | assumption | exact At.skip (by decide) (by walk_at "mine:at"))
  k_with "m:eval Name" => (k_here; (with_reducible fail_if_success show wpAny _ _ (eval _ (compEnvC _ _ _ _)) _ _ _); (with_reducible fail_if_success show wpAny _ _ (eval _ (compEnv _ _ _)) _ _ _); (with_reducible fail_if_success show wpAny _ _ (eval _ (envOfC _ _ _ _ _)) _ _ _); (with_reducible rename At _ _ _ => hAt'); k_dflt (refine' ldA (by (k_asm)) (by (walk_at "mine:at")) ?_))
  k_with "m:loadName" => (k_here; (with_reducible fail_if_success show wpAny _ _ (loadName (envOfC _ _ _ _ _) _) _ _ _); (with_reducible rename At _ _ _ => hAt'); k_dflt (refine' ldnA (by (k_asm)) (by (walk_at "mine:at")) ?_))
  k_with "m:subscriptTail" => (k_here; (with_reducible show wpAny _ _ (subscriptTail _ _ (Value.ref _) (Value.int (-1) _)) _ _ _); k_dflt (refine' item_last (by (k_asm)) (by (k_mem)) ?_))
  k_with "m:mine:enterC" => (refine' code_defC (by (k_asm)) (by (k_asm)) (by (k_asm)) (by (k_asm)) (by (k_asm)) (by (exact rfl)) (by (exact rfl)) (by (assumption)) (by (k_is)) (by (k_is)) (by (ktr_room)) (by (exact BindsTo.of_eq rfl)) (by (exact rfl)) (by (decide +kernel)) ?_ (by (exact rfl)) (by (exact rfl)) (by (exact rfl)); k_whole; intro g' L' h' tk' cells' FG' F' N' Y' B' X' T' l1; (have hL9 := Lts.mk' l1; (repeat (replace hL9 := Lts.drop hL9))); (try k_lt l1); k_cells Y'; (try simp only [List.cons_append, List.nil_append] at N'); (try dsimp only); (try k_lift B'); (try k_fold))
  k_with "m:call ref" => (k_here; (with_reducible show wpAny _ _ (call (Value.ref 94) [Value.bytes _ _]) _ _ _); k_dflt (refine' Claim.use (fspath_ok _ _) (by (k_asm)) (by (k_asm)) (by (k_asm)) (by (k_asm)) (by (k_asm)) (by (first | exact rfl | assumption)) (by (ktr_room)) (by (ktr_units)) ?_); intro v h' tk' hv F' N'; subst hv; (try dsimp only); (try k_fold))
  k_with "m:call ref" => (k_here; (with_reducible show wpAny _ _ (call (Value.ref 108) [Value.bytes _ _]) _ _ _); k_dflt (refine' Claim.use (get_sep_ok _ _) (by (k_asm)) (by (k_asm)) (by (k_asm)) (by (k_asm)) (by (k_asm)) (by (first | exact rfl | assumption)) (by (ktr_room)) (by (ktr_units)) ?_); intro v h' tk' hv F' N'; (obtain ⟨t9, hv⟩ := hv); subst hv; (try dsimp only); (try k_fold))
  k_with "m:call ref" => (k_here; (with_reducible show wpAny _ _ (call (Value.ref 122) [Value.bytes _ _]) _ _ _); k_dflt (refine' Claim.use (dirname_ok _ _ (by (walk_at "mine:size"))) (by (k_asm)) (by (k_asm)) (by (k_asm)) (by (k_asm)) (by (k_asm)) (by (first | exact rfl | assumption)) (by (ktr_room)) (by (ktr_units)) ?_); intro v h' tk' hv F' N'; (obtain ⟨t9, hv⟩ := hv); subst hv; (try dsimp only); (try k_fold))
  trivial
/-- what join gives -/
noncomputable def joinRaw (b c : Array UInt8) : Array UInt8 :=
  if startsRaw c #[47] = true then c else if (b.size : Int) = 0 then c else if endsRaw b #[47] = true then b ++ c else b ++ (#[47] ++ c)
set_option maxRecDepth 100000 in
set_option maxHeartbeats 4000000 in
theorem join_ok (b c : Array UInt8) (t u : Tok) (hb : b.size ≤ 1000) (hc : c.size ≤ 1000) : Claim 3 24 115 [.bytes b t, .bytes c u] (fun v => ∃ t', v = .bytes (joinRaw b c) t') := by
  unfold Claim
  k_fill
  intro w mean mg mb news dp un gd cn cs a ccd cl outer A₀ base h₀ L m s Q E B F X N T hk hd hu hret
  refine wpAny_call ?_
  k_dflt (refine' kp_rest ?k1 ?k2 ?k3 ?k4 ?k5 ?kA ?kF ?kK ?k6 ?k7 ?k8 ?kV ?kP ?kG ?kB ?_ ?c2 ?c3 ?c4 ?c5; (case kA => exact rfl); (case kF => exact rfl); (case kK => assumption); (case k1 => k_asm); (case k2 => k_asm); (case k3 => k_asm); (case k4 => k_asm); (case k5 => k_asm); (case k6 => k_is); (case k7 => k_is); (case k8 => ktr_room); (case kV => kl_lit); (case kP => exact rfl); (case kG => exact fun _ => rfl); (case kB => exact fun _ => locs rfl); (case c5 => decide); (case c2 => exact rfl); (case c3 => exact rfl); (case c4 => exact rfl); k_whole; intro D' g' L' h' l1 FG' F' N' B' X' T'; (try k_lt l1); (try dsimp only); (try k_lift B'); (try k_fold))
  k_steps
  (with_reducible rename Fr _ _ _ _ => F₁)
  (with_reducible rename News _ _ _ _ => N₁)
  refine wpP.any (For_tup1 every_kept rfl F₁ N₁ List.mem_cons_self ?hx ?turn)
  case hx => k_dflt (refine ld F₁ rfl ⟨rfl, rfl⟩)
  intro h₁ tk₁ I oI off F₂ N₂
  clear F₁ N₁
  refine wpAny_assign_Name ?_
  k_steps
  refine wpP.of_any ?_
  k_steps
  all_goals (dsimp only; refine TurnEnd.intro ((D', tupObj [.bytes c u] 0) :: news) (by assumption) (by assumption) (fun p hp => hp) off ⟨List.mem_cons_self, ?_⟩; intro h8 tk8 F8 N8; k_steps)
  all_goals (refine hret _ _ _ ⟨_, congrArg (PySem.Value.bytes · _) ?e⟩ ?f ?n; (case f => assumption); (case n => walk_at "mine:news"); (case e => unfold joinRaw; first
    | rw [if_pos (by assumption)]
    | rw [if_neg (ne_true_of_eq_false (by assumption)), if_pos (by assumption)]
    | rw [if_neg (ne_true_of_eq_false (by assumption)), if_neg (by assumption), if_pos (by assumption)]
    | rw [if_neg (ne_true_of_eq_false (by assumption)), if_neg (by assumption), if_neg (ne_true_of_eq_false (by assumption))]))
theorem rules_C4 : True := by
  k_with_none
  k_with "m:call type:type" => (k_here; (with_reducible show wpAny _ _ (call (Value.type "type") [Value.bytes _ _]) _ _ _); (refine type_bytes ?_))
  k_with "m:call builtin:issubclass" => (k_here; (show wpAny _ _ (call (Value.builtin "issubclass") [Value.type "bytes", Value.ref _]) _ _ _); k_dflt (refine' issub_N (by (k_asm)) (by (k_mem)) ?_))
  k_with "m:mine:news" => first | assumption | (refine cb_drop (by assumption) ?_; intro p hp; repeat (first | exact hp | refine List.mem_cons_of_mem _ ?_))
  k_with "m:mine:size" => first | omega | (simp only [Array.size_append, List.size_toArray, List.length_cons, List.length_nil] at *; omega)
  k_with "m:getMethod bytes" => (k_here; (with_reducible first | refine meth FB.slot_bytes_startswith FB.type_bytes_startswith ?_ | refine meth FB.slot_bytes_endswith FB.type_bytes_endswith ?_ | refine meth slot_rfind type_rfind ?_ | refine meth slot_rstrip type_rstrip ?_ | refine meth slot_split type_split ?_ | refine meth slot_join type_join ?_))
  k_with "m:call builtin:bytes.startswith" => (k_here; (show wpAny _ _ (call (Value.builtin "bytes.startswith") [Value.bytes _ _, Value.bytes _ _]) _ _ _); (refine call_starts ?_))
  k_with "m:call builtin:bytes.endswith" => (k_here; (show wpAny _ _ (call (Value.builtin "bytes.endswith") [Value.bytes _ _, Value.bytes _ _]) _ _ _); (refine call_ends ?_))
  k_with "m:call builtin:bytes.rfind" => (k_here; (show wpAny _ _ (call (Value.builtin "bytes.rfind") [Value.bytes _ _, Value.bytes _ _]) _ _ _); (refine call_rfind ?_))
  k_with "m:call builtin:bytes.rstrip" => (k_here; (show wpAny _ _ (call (Value.builtin "bytes.rstrip") [Value.bytes _ _, Value.bytes _ _]) _ _ _); (refine call_rstrip (by walk_at "mine:size") ?_); intro _ _)
  k_with "m:truthy bytes" => (k_here; (with_reducible show wpAny _ _ (truthy (Value.bytes _ _)) _ _ _); (refine truthy_bytes (by walk_at "mine:size") ?_))
  k_with "m:call builtin:len" => (k_here; (show wpAny _ _ (call (Value.builtin "len") [Value.bytes _ _]) _ _ _); (refine len_bytes (by walk_at "mine:size") ?_))
  k_with "m:subscriptTail" => (k_here; (with_reducible show wpAny _ _ (subscriptTail _ (Expr.Slice _ _ none _) (Value.bytes _ _) (Value.ref _)) _ _ _); (with_reducible rename Fr _ _ _ _ => F'); (with_reducible rename News _ _ _ _ => N'); (refine slice_B (s := ⟨_, _, _, _, _⟩) F' N' (by constructor) (by constructor) (by walk_at "mine:size") ?_); intro _ _ _ F' N' hsz')
  k_with "m:binaryOp Mult bytes int" => (k_here; (with_reducible show wpAny _ _ (binaryOp Operator.Mult (Value.bytes _ _) (Value.int _ _)) _ _ _); (refine mul_one (by omega) (by walk_at "mine:size") ?_); intro _ _)
  k_with "m:binaryOp Add bytes bytes" => (k_here; (with_reducible show wpAny _ _ (binaryOp Operator.Add (Value.bytes _ _) (Value.bytes _ _)) _ _ _); (refine KBy.add_bytes (by walk_at "mine:size") ?_); intro _ _)
  k_with "m:compareOp NotEq bytes bytes" => (k_here; (refine ne_bytes ?_))
  k_with "m:compareOp Eq bytes bytes" => (k_here; (refine eq_bytes ?_))
  k_with "m:exec Try" => (k_here; (refine Try_calm ?_))
  k_with "m:mine:passes_own" => exact fun _ _ h => (show False from h).elim
  k_with "m:inplaceOp Add" => (k_here; (with_reducible show wpAny _ _ (inplaceOp Operator.Add (Value.bytes _ _) (Value.bytes _ _)) _ _ _); (refine iadd_bytes (by walk_at "mine:size") ?_); intro _ _)
  k_with "m:call builtin:bytes.split" => (k_here; (show wpAny _ _ (call (Value.builtin "bytes.split") [Value.bytes _ _, Value.bytes _ _]) _ _ _); k_dflt (refine' call_split1 (by (k_asm)) (by (k_asm)) (by (walk_at "mine:size")) ?_); intro l' h' vs' k' hv' hn' F' N' l1'; (try dsimp only))
  k_with "m:call builtin:len" => (k_here; (show wpAny _ _ (call (Value.builtin "len") [Value.ref _]) _ _ _); k_dflt (refine' len_L (by (k_asm)) (by (k_mem)) (by (omega)) ?_); intro _ _)
  k_with "m:mine:at" => with_reducible (first | exact At.here | assumption | exact At.skip (by decide) (by walk_at "mine:at"))
  k_with "m:eval Name" => (k_here; (with_reducible fail_if_success show wpAny _ _ (eval _ (compEnvC _ _ _ _)) _ _ _); (with_reducible fail_if_success show wpAny _ _ (eval _ (compEnv _ _ _)) _ _ _); (with_reducible fail_if_success show wpAny _ _ (eval _ (envOfC _ _ _ _ _)) _ _ _); (with_reducible rename At _ _ _ => hAt'); k_dflt (refine' ldA (by (k_asm)) (by (walk_at "mine:at")) ?_))
  k_with "m:loadName" => (k_here; (with_reducible fail_if_success show wpAny _ _ (loadName (envOfC _ _ _ _ _) _) _ _ _); (with_reducible rename At _ _ _ => hAt'); k_dflt (refine' ldnA (by (k_asm)) (by (walk_at "mine:at")) ?_))
  k_with "m:subscriptTail" => (k_here; (with_reducible show wpAny _ _ (subscriptTail _ _ (Value.ref _) (Value.int (-1) _)) _ _ _); k_dflt (refine' item_last (by (k_asm)) (by (k_mem)) ?_))
  k_with "m:mine:enterC" => (refine' code_defC (by (k_asm)) (by (k_asm)) (by (k_asm)) (by (k_asm)) (by (k_asm)) (by (exact rfl)) (by (exact rfl)) (by (assumption)) (by (k_is)) (by (k_is)) (by (ktr_room)) (by (exact BindsTo.of_eq rfl)) (by (exact rfl)) (by (decide +kernel)) ?_ (by (exact rfl)) (by (exact rfl)) (by (exact rfl)); k_whole; intro g' L' h' tk' cells' FG' F' N' Y' B' X' T' l1; (have hL9 := Lts.mk' l1; (repeat (replace hL9 := Lts.drop hL9))); (try k_lt l1); k_cells Y'; (try simp only [List.cons_append, List.nil_append] at N'); (try dsimp only); (try k_lift B'); (try k_fold))
  k_with "m:call ref" => (k_here; (with_reducible show wpAny _ _ (call (Value.ref 94) [Value.bytes _ _]) _ _ _); k_dflt (refine' Claim.use (fspath_ok _ _) (by (k_asm)) (by (k_asm)) (by (k_asm)) (by (k_asm)) (by (k_asm)) (by (first | exact rfl | assumption)) (by (ktr_room)) (by (ktr_units)) ?_); intro v h' tk' hv F' N'; subst hv; (try dsimp only); (try k_fold))
  k_with "m:call ref" => (k_here; (with_reducible show wpAny _ _ (call (Value.ref 108) [Value.bytes _ _]) _ _ _); k_dflt (refine' Claim.use (get_sep_ok _ _) (by (k_asm)) (by (k_asm)) (by (k_asm)) (by (k_asm)) (by (k_asm)) (by (first | exact rfl | assumption)) (by (ktr_room)) (by (ktr_units)) ?_); intro v h' tk' hv F' N'; (obtain ⟨t9, hv⟩ := hv); subst hv; (try dsimp only); (try k_fold))
  k_with "m:call ref" => (k_here; (with_reducible show wpAny _ _ (call (Value.ref 122) [Value.bytes _ _]) _ _ _); k_dflt (refine' Claim.use (dirname_ok _ _ (by (walk_at "mine:size"))) (by (k_asm)) (by (k_asm)) (by (k_asm)) (by (k_asm)) (by (k_asm)) (by (first | exact rfl | assumption)) (by (ktr_room)) (by (ktr_units)) ?_); intro v h' tk' hv F' N'; (obtain ⟨t9, hv⟩ := hv); subst hv; (try dsimp only); (try k_fold))
  trivial
set_option maxRecDepth 100000 in
set_option maxHeartbeats 4000000 in
theorem size_ok (b : Array UInt8) (t : Tok) (hb : b.size ≤ 1000) : Claim 1 8 162 [.bytes b t] (fun v => ∃ t', v = .int (if b.size = 0 then 0 else ((splitRaw b #[47]).length : Int)) t') := by
  unfold Claim
  k_fill
  intro w mean mg mb news dp un gd cn cs a ccd cl outer A₀ base h₀ L m s Q E B F X N T hk hd hu hret
  refine wpAny_call ?_
  k_dflt cell_enter
  k_steps
  all_goals (refine hret _ _ _ ⟨_, congrArg (PySem.Value.int · _) ?e⟩ ?f ?n; (case f => assumption); (case n => walk_at "mine:news"); (case e => first
    | (rw [if_pos (by omega)])
    | (rw [if_neg (by omega), BytesAre.length (by assumption)])))
theorem rules_C5 : True := by
  k_with_none
  k_with "m:call type:type" => (k_here; (with_reducible show wpAny _ _ (call (Value.type "type") [Value.bytes _ _]) _ _ _); (refine type_bytes ?_))
  k_with "m:call builtin:issubclass" => (k_here; (show wpAny _ _ (call (Value.builtin "issubclass") [Value.type "bytes", Value.ref _]) _ _ _); k_dflt (refine' issub_N (by (k_asm)) (by (k_mem)) ?_))
  k_with "m:mine:news" => first | assumption | (refine cb_drop (by assumption) ?_; intro p hp; repeat (first | exact hp | refine List.mem_cons_of_mem _ ?_))
  k_with "m:mine:size" => first | omega | (simp only [Array.size_append, List.size_toArray, List.length_cons, List.length_nil] at *; omega)
  k_with "m:getMethod bytes" => (k_here; (with_reducible first | refine meth FB.slot_bytes_startswith FB.type_bytes_startswith ?_ | refine meth FB.slot_bytes_endswith FB.type_bytes_endswith ?_ | refine meth slot_rfind type_rfind ?_ | refine meth slot_rstrip type_rstrip ?_ | refine meth slot_split type_split ?_ | refine meth slot_join type_join ?_))
  k_with "m:call builtin:bytes.startswith" => (k_here; (show wpAny _ _ (call (Value.builtin "bytes.startswith") [Value.bytes _ _, Value.bytes _ _]) _ _ _); (refine call_starts ?_))
  k_with "m:call builtin:bytes.endswith" => (k_here; (show wpAny _ _ (call (Value.builtin "bytes.endswith") [Value.bytes _ _, Value.bytes _ _]) _ _ _); (refine call_ends ?_))
  k_with "m:call builtin:bytes.rfind" => (k_here; (show wpAny _ _ (call (Value.builtin "bytes.rfind") [Value.bytes _ _, Value.bytes _ _]) _ _ _); (refine call_rfind ?_))
  k_with "m:call builtin:bytes.rstrip" => (k_here; (show wpAny _ _ (call (Value.builtin "bytes.rstrip") [Value.bytes _ _, Value.bytes _ _]) _ _ _); (refine call_rstrip (by walk_at "mine:size") ?_); intro _ _)
  k_with "m:truthy bytes" => (k_here; (with_reducible show wpAny _ _ (truthy (Value.bytes _ _)) _ _ _); (refine truthy_bytes (by walk_at "mine:size") ?_))
  k_with "m:call builtin:len" => (k_here; (show wpAny _ _ (call (Value.builtin "len") [Value.bytes _ _]) _ _ _); (refine len_bytes (by walk_at "mine:size") ?_))
  k_with "m:subscriptTail" => (k_here; (with_reducible show wpAny _ _ (subscriptTail _ (Expr.Slice _ _ none _) (Value.bytes _ _) (Value.ref _)) _ _ _); (with_reducible rename Fr _ _ _ _ => F'); (with_reducible rename News _ _ _ _ => N'); (refine slice_B (s := ⟨_, _, _, _, _⟩) F' N' (by constructor) (by constructor) (by walk_at "mine:size") ?_); intro _ _ _ F' N' hsz')
  k_with "m:binaryOp Mult bytes int" => (k_here; (with_reducible show wpAny _ _ (binaryOp Operator.Mult (Value.bytes _ _) (Value.int _ _)) _ _ _); (refine mul_one (by omega) (by walk_at "mine:size") ?_); intro _ _)
  k_with "m:binaryOp Add bytes bytes" => (k_here; (with_reducible show wpAny _ _ (binaryOp Operator.Add (Value.bytes _ _) (Value.bytes _ _)) _ _ _); (refine KBy.add_bytes (by walk_at "mine:size") ?_); intro _ _)
  k_with "m:compareOp NotEq bytes bytes" => (k_here; (refine ne_bytes ?_))
  k_with "m:compareOp Eq bytes bytes" => (k_here; (refine eq_bytes ?_))
  k_with "m:exec Try" => (k_here; (refine Try_calm ?_))
  k_with "m:mine:passes_own" => exact fun _ _ h => (show False from h).elim
  k_with "m:inplaceOp Add" => (k_here; (with_reducible show wpAny _ _ (inplaceOp Operator.Add (Value.bytes _ _) (Value.bytes _ _)) _ _ _); (refine iadd_bytes (by walk_at "mine:size") ?_); intro _ _)
  k_with "m:call builtin:bytes.split" => (k_here; (show wpAny _ _ (call (Value.builtin "bytes.split") [Value.bytes _ _, Value.bytes _ _]) _ _ _); k_dflt (refine' call_split1 (by (k_asm)) (by (k_asm)) (by (walk_at "mine:size")) ?_); intro l' h' vs' k' hv' hn' F' N' l1'; (try dsimp only))
  k_with "m:call builtin:len" => (k_here; (show wpAny _ _ (call (Value.builtin "len") [Value.ref _]) _ _ _); k_dflt (refine' len_L (by (k_asm)) (by (k_mem)) (by (omega)) ?_); intro _ _)
  k_with "m:mine:at" => with_reducible (first | exact At.here | assumption | exact At.skip (by decide) (by walk_at "mine:at"))
  k_with "m:eval Name" => (k_here; (with_reducible fail_if_success show wpAny _ _ (eval _ (compEnvC _ _ _ _)) _ _ _); (with_reducible fail_if_success show wpAny _ _ (eval _ (compEnv _ _ _)) _ _ _); (with_reducible fail_if_success show wpAny _ _ (eval _ (envOfC _ _ _ _ _)) _ _ _); (with_reducible rename At _ _ _ => hAt'); k_dflt (refine' ldA (by (k_asm)) (by (walk_at "mine:at")) ?_))
  k_with "m:loadName" => (k_here; (with_reducible fail_if_success show wpAny _ _ (loadName (envOfC _ _ _ _ _) _) _ _ _); (with_reducible rename At _ _ _ => hAt'); k_dflt (refine' ldnA (by (k_asm)) (by (walk_at "mine:at")) ?_))
  k_with "m:subscriptTail" => (k_here; (with_reducible show wpAny _ _ (subscriptTail _ _ (Value.ref _) (Value.int (-1) _)) _ _ _); k_dflt (refine' item_last (by (k_asm)) (by (k_mem)) ?_))
  k_with "m:mine:enterC" => (refine' code_defC (by (k_asm)) (by (k_asm)) (by (k_asm)) (by (k_asm)) (by (k_asm)) (by (exact rfl)) (by (exact rfl)) (by (assumption)) (by (k_is)) (by (k_is)) (by (ktr_room)) (by (exact BindsTo.of_eq rfl)) (by (exact rfl)) (by (decide +kernel)) ?_ (by (exact rfl)) (by (exact rfl)) (by (exact rfl)); k_whole; intro g' L' h' tk' cells' FG' F' N' Y' B' X' T' l1; (have hL9 := Lts.mk' l1; (repeat (replace hL9 := Lts.drop hL9))); (try k_lt l1); k_cells Y'; (try simp only [List.cons_append, List.nil_append] at N'); (try dsimp only); (try k_lift B'); (try k_fold))
  k_with "m:call ref" => (k_here; (with_reducible show wpAny _ _ (call (Value.ref 94) [Value.bytes _ _]) _ _ _); k_dflt (refine' Claim.use (fspath_ok _ _) (by (k_asm)) (by (k_asm)) (by (k_asm)) (by (k_asm)) (by (k_asm)) (by (first | exact rfl | assumption)) (by (ktr_room)) (by (ktr_units)) ?_); intro v h' tk' hv F' N'; subst hv; (try dsimp only); (try k_fold))
  k_with "m:call ref" => (k_here; (with_reducible show wpAny _ _ (call (Value.ref 108) [Value.bytes _ _]) _ _ _); k_dflt (refine' Claim.use (get_sep_ok _ _) (by (k_asm)) (by (k_asm)) (by (k_asm)) (by (k_asm)) (by (k_asm)) (by (first | exact rfl | assumption)) (by (ktr_room)) (by (ktr_units)) ?_); intro v h' tk' hv F' N'; (obtain ⟨t9, hv⟩ := hv); subst hv; (try dsimp only); (try k_fold))
  k_with "m:call ref" => (k_here; (with_reducible show wpAny _ _ (call (Value.ref 122) [Value.bytes _ _]) _ _ _); k_dflt (refine' Claim.use (dirname_ok _ _ (by (walk_at "mine:size"))) (by (k_asm)) (by (k_asm)) (by (k_asm)) (by (k_asm)) (by (k_asm)) (by (first | exact rfl | assumption)) (by (ktr_room)) (by (ktr_units)) ?_); intro v h' tk' hv F' N'; (obtain ⟨t9, hv⟩ := hv); subst hv; (try dsimp only); (try k_fold))
  k_with "m:exec For Name Call cons nil" => refine Stop.go ?_
  trivial
section
/-- dirname, so many times -/
noncomputable def dirIter (b : Array UInt8) : Nat → Array UInt8
  | 0 => b
  | k + 1 => dirRaw (dirIter b k)
theorem dirRaw_size (b : Array UInt8) : (dirRaw b).size ≤ b.size := by
  have h := KBc.size_picked_le b none (some (rfindRaw b #[47] + 1))
  unfold dirRaw
  split
  · exact h
  · split
    · refine Nat.le_trans ?_ h
      unfold rstripRaw
      simp only [List.size_toArray, List.length_reverse]
      have := (List.dropWhile_suffix (l := (KBy.picked b none (some (rfindRaw b #[47] + 1))).toList.reverse) #[47].contains).length_le
      simpa using this
    · exact h
theorem dirIter_size (b : Array UInt8) : ∀ k, (dirIter b k).size ≤ b.size
  | 0 => Nat.le_refl _
  | k + 1 => Nat.le_trans (dirRaw_size _) (dirIter_size b k)
/-- the folders: the path, its front, its front's front .. -/
noncomputable def climbL (b : Array UInt8) (k : Nat) : List (Array UInt8) := (List.range (k + 1)).map (dirIter b)
theorem climbL_succ (b : Array UInt8) (k : Nat) : climbL b (k + 1) = climbL b k ++ [dirIter b (k + 1)] := by unfold climbL; rw [List.range_succ, List.map_append]; rfl
set_option maxRecDepth 100000 in
set_option maxHeartbeats 4000000 in
theorem climb_ok (b : Array UInt8) (t : Tok) (hb : b.size ≤ 1000) : ClaimL 5 40 148 [.bytes b t] (fun ws => BytesAre ws (climbL b 8)) := by
  unfold ClaimL
  k_fill
  intro w mean mg mb news dp un gd cn cs a ccd cl outer A₀ base h₀ L m s Q E B F X N T hk hd hu hret
  refine wpAny_call ?_
  k_dflt cell_enter
  k_steps
  (with_reducible rename Fr _ _ _ _ => F₁)
  (with_reducible rename News _ _ _ _ => N₁)
  obtain ⟨l₁, e₁, hA₁⟩ := name_at (Fr_here F₁)
  subst e₁
  have FN := And.intro F₁ N₁
  have l₁lt : ∀ p ∈ news, p.1 < l₁ := by assumption
  refine wpP.any (For_rng (a := 0) (b := 8) (c := 1) (n := 8) every_kept rfl (by decide) (by decide) F₁ N₁ ?hx (fun i m' nw => At m' (Str.ofString "folders") (.ref l₁) ∧ ∃ vs t', nw = (l₁, listOf (vs ++ [.bytes (dirIter b i) t']).toArray i) :: news ∧ BytesAre (vs ++ [.bytes (dirIter b i) t']) (climbL b i)) ?h0 ?turn ?fin)
  case hx =>
    k_steps
    exact RngAt.intro (by assumption) FN.1 FN.2 (by assumption)
  case h0 => exact ⟨hA₁, [], t, rfl, .cons .nil⟩
  case turn =>
    intro i t₂ m₂ news₂ h₂ tk₂ I oI hi hJ off F₂ N₂
    obtain ⟨hA, vs, t', rfl, hB⟩ := hJ
    have hz := dirIter_size b i
    clear FN hA₁ F₁ N₁
    refine wpAny_assign_Name ?_
    k_steps
    refine wpP.of_any ?_
    k_steps
    (with_reducible rename Fr _ _ _ _ => F₃)
    (with_reducible rename News _ _ _ _ => N₃)
    have hlen := hB.length
    have hIl : l₁ ≠ I := off (l₁, _) List.mem_cons_self
    refine append_L (pre := [(I, oI)]) (post := news) F₃ N₃ (fun p hp => by rw [List.mem_singleton.mp hp]; exact hIl.symm) (fun p hp => Nat.ne_of_lt (l₁lt p hp)) ?_ (by rw [hlen]; unfold climbL; simp; omega)
    intro h₄ F₄ N₄
    clear F₃ N₃
    k_steps
    refine TurnEnd.intro ((l₁, listOf ((vs ++ [PySem.Value.bytes (dirIter b i) t']) ++ [PySem.Value.bytes (dirIter b (i + 1)) _]).toArray (i + 1)) :: news) (by assumption) (by assumption) (fun p hp => hp) (fun p hp => ?_) ⟨At.skip (by decide) (by assumption), _, _, rfl, ?_⟩
    · rcases List.mem_cons.mp hp with rfl | hp
      · exact hIl
      · exact off p (List.mem_cons_of_mem _ hp)
    · rw [climbL_succ]; exact hB.snoc
  case fin =>
    intro h₂ tk₂ m₂ news₂ F₂ N₂ hJ
    obtain ⟨hA, vs, t', rfl, hB⟩ := hJ
    clear FN hA₁ F₁ N₁
    k_steps
    refine hret _ _ 8 _ _ hB ?f ?n l₁lt
    case f => assumption
    case n => assumption
end
section
open PySem PySem.W PyProof.Rows PySem.Calls
set_option maxRecDepth 100000

/-- all of the ledger's lie below -/
noncomputable def Lts (ps : List (Addr × Obj)) (a : Addr) : Prop := ∀ p ∈ ps, p.1 < a
theorem Lts.mk' {ps : List (Addr × Obj)} {a : Addr} (h : ∀ p ∈ ps, p.1 < a) : Lts ps a := h
theorem Lts.drop {q : Addr × Obj} {ps : List (Addr × Obj)} {a : Addr} (h : Lts (q :: ps) a) : Lts ps a := fun p hp => h p (List.mem_cons_of_mem _ hp)
theorem Lts.ne {ps : List (Addr × Obj)} {a b : Addr} (h : Lts ps a) (hb : @LE.le Nat _ a b) : ∀ p ∈ ps, p.1 ≠ b := fun p hp => Nat.ne_of_lt (Nat.lt_of_lt_of_le (h p hp) hb)
/-- a map object over a list, i items taken -/
structure MapAt (news : List (Addr × Obj)) (h₀ : Heap) (L M T It la : Addr) (f : PySem.Value) (i : Nat) (h : Heap) : Prop where
  m : h.get? M = some (mapObj T f)
  t : h.get? T = some (tupObj [.ref It] 0)
  it : h.IsListIter It la i
  ne : (@Ne Nat M It) ∧ (@Ne Nat T It) ∧ (@Ne Nat L It)
  off : ∀ p ∈ news, p.1 ≠ It
  new : h₀.get? It = none
  mn : M ≠ L ∧ h₀.get? M = none
  tn : T ≠ L ∧ h₀.get? T = none
section
variable {prog : Program} {w : World} {A : Around} {E : PySem.Value → Shared → Prop} {s : Shared} {h₀ : Heap} {L : Addr} {m : Str → Option PySem.Value} {news : List (Addr × Obj)} {Q : PySem.Value → Shared → Prop}
theorem call_map_K {f la : Addr} {vs : List PySem.Value} {n : Nat} (F : Fr h₀ L s.heap m) (N : News h₀ L s.heap news) (hm : (la, listOf vs.toArray n) ∈ news)
    (h : ∀ h' M T It, Fr h₀ L h' m → News h₀ L h' news → MapAt news h₀ L M T It la (.ref f) 0 h' → Q (.ref M) { s with heap := h' }) :
    wpAny (model prog w) A (call (.type "map") [.ref f, .ref la]) Q E s := by
  refine callType_new called_map (by decide) (typeCall_map_2 _ _) (newCall_map_2 _ _) (fun obj => PySem.F.args_object_init_3 obj _ _) entry_map_new
    (meets_map_new f la vs.toArray) ⟨isL N hm, ?_⟩
  have up1 : ∀ b o, s.heap.get? b = some o → (s.heap.push { cls := .type "list_iterator", data := .fields #[.ref la, .int 0 0] }).get? b = some o := fun b o e => Heap.get?_push_of_some _ e
  obtain ⟨f1, f2⟩ := fresh_I F
  have fr : ∀ k, s.heap.objs.size ≤ k → k ≠ L ∧ h₀.get? k = none := fun k hk => ⟨Nat.ne_of_gt (Nat.lt_of_lt_of_le F.ns.lt hk), by
    cases q : h₀.get? k with
    | none => rfl
    | some o => exact absurd (Nat.lt_of_lt_of_le (Heap.lt_size (F.keep _ _ q)) hk) (Nat.lt_irrefl _)⟩
  generalize hH1 : s.heap.push { cls := .type "list_iterator", data := .fields #[.ref la, .int 0 0] } = H1 at up1 ⊢
  have z1 : H1.objs.size = s.heap.objs.size + 1 := by rw [← hH1, Heap.size_push]
  have g1 : H1.get? s.heap.objs.size = some { cls := .type "list_iterator", data := .fields #[.ref la, .int 0 0] } := by rw [← hH1]; exact Heap.get?_push_size _ rfl
  generalize hH2 : H1.push { cls := .type "tuple", data := .seq #[.ref s.heap.objs.size] } = H2
  have z2 : H2.objs.size = H1.objs.size + 1 := by rw [← hH2, Heap.size_push]
  have g2 : H2.get? H1.objs.size = some (tupObj [.ref s.heap.objs.size] 0) := by rw [← hH2]; exact Heap.get?_push_size _ rfl
  have up2 : ∀ b o, H1.get? b = some o → H2.get? b = some o := fun b o e => by rw [← hH2]; exact Heap.get?_push_of_some _ e
  generalize hH3 : H2.push (mapObj H1.objs.size (.ref f)) = H3
  have g3 : H3.get? H2.objs.size = some (mapObj H1.objs.size (.ref f)) := by rw [← hH3]; exact Heap.get?_push_size _ rfl
  have up3 : ∀ b o, H2.get? b = some o → H3.get? b = some o := fun b o e => by rw [← hH3]; exact Heap.get?_push_of_some _ e
  have up : ∀ b o, s.heap.get? b = some o → H3.get? b = some o := fun b o e => up3 _ _ (up2 _ _ (up1 _ _ e))
  refine ⟨⟨_, g3, rfl⟩, h H3 H2.objs.size H1.objs.size s.heap.objs.size (F.keeps up) (N.grown up) ⟨g3, up3 _ _ g2, ⟨_, up3 _ _ (up2 _ _ g1), rfl, rfl⟩, ⟨?_, ?_, f1⟩, fun p hp => Nat.ne_of_lt (Heap.lt_size (N p hp).1), f2, fr _ (by omega), fr _ (by omega)⟩⟩
  · omega
  · omega
end
theorem map_item {D U : Nat} {f : Addr} {bs : List (Array UInt8)} {vs : List PySem.Value} (hv : BytesAre vs bs) (hC : ∀ b t, Claim D U f [.bytes b t] (fun v => v = .bytes b t))
    {w : World} {mean : ExcName → Option PySem.Value} {mg mb : Str → Option PySem.Value} {news : List (Addr × Obj)} {dp un : Nat} {gd : Option (List Code)} {cn : Str} {cs : Scope} {a : Addr} {ccd : PySem.Value} {cl : List (Str × Addr)} {outer : List Env} {A₀ : Around} {base h₀ : Heap} {L : Addr} {m : Str → Option PySem.Value} {la M T It : Addr} {n : Nat}
    (B : Below A₀ base outer h₀) (X : (Mine.lawK w.params).In h₀) (hT : Top Mine.hd.view_1_2 (looseW Mine.hd.view_1_2 []) mean mg mb h₀) (hk : cs.kind = .function) (hm : (la, listOf vs.toArray n) ∈ news)
    (hd : dp + D < recursionLimit) (hu : un + U + 1 < cLine) {i : Nat} {s : Shared} {Q : Option PySem.Value → Shared → Prop} {E : PySem.Value → Shared → Prop} (hi : i < vs.length)
    (F : Fr h₀ L s.heap m) (N : News h₀ L s.heap news) (Ma : MapAt news h₀ L M T It la (.ref f) i s.heap)
    (hQ : ∀ v h' tk, vs[i]? = some v → Fr h₀ L h' m → News h₀ L h' news → MapAt news h₀ L M T It la (.ref f) (i + 1) h' → Q (some v) { s with heap := h', toks := tk }) :
    wpAny (model PySem.Challenge.rw_pd0128_01.row.prog w) (ktrTop dp un gd cn cs L a ccd cl outer) (pyNext (.ref M)) Q E s := by
  have hT' : s.TypeIs (.ref M) "map" := ⟨_, Ma.m, rfl⟩
  have hx : vs.toArray[i]? = some vs[i] := by simp [hi]
  unfold pyNext
  refine wpAny_bind (wpAny_attempt (wpAny_callSpecial?_slot (name := Str.ofString "__next__") hT' slot_map_next (wpAny_call_entry slot_map_next hT' entry_map_next ?_ (args_map_next _))))
  show wpAny _ _ (field (.ref M) 0 >>= _) _ _ s
  refine wpAny_bind (wpAny_field Ma.m rfl (x := .ref T) rfl ?_)
  show wpAny _ _ (seqItems? (.ref T) >>= _) _ _ s
  refine wpAny_bind (wpAny_seqItems Ma.t rfl ?_)
  dsimp only
  refine wpAny_bind ?_
  show wpAny _ _ (forIn #[PySem.Value.ref It] _ _) _ _ _
  rw [← Array.forIn_toList]
  show wpAny _ _ (forIn [PySem.Value.ref It] _ _) _ _ _
  rw [List.forIn_cons]
  refine wpAny_bind ?_
  refine wpAny_bind (wpAny_holding (wpAny_nextOf_list_item Ma.it (isL N hm) hx fun h₁ hit₁ hs₁ => ?_))
  refine wpAny_pure ?_
  dsimp only
  rw [List.forIn_nil]
  refine wpAny_pure ?_
  have nIt : ∀ b o, b ≠ It → s.heap.get? b = some o → h₁.get? b = some o := fun b o hb e => (hs₁.2 b hb).trans e
  have F₁ : Fr h₀ L h₁ m := F.change hs₁ (Ne.symm Ma.ne.2.2) Ma.new
  have N₁ : News h₀ L h₁ news := fun p hp => ⟨nIt _ _ (Ma.off p hp) (N p hp).1, (N p hp).2⟩
  have m₁ : h₁.get? M = some (mapObj T (.ref f)) := nIt _ _ Ma.ne.1 Ma.m
  have t₁ : h₁.get? T = some (tupObj [.ref It] 0) := nIt _ _ Ma.ne.2.1 Ma.t
  obtain ⟨tk, e1⟩ : ∃ tk b, vs[i] = PySem.Value.bytes b tk := by
    obtain ⟨x, tk, _, _, e⟩ := getD_bytes hv hi
    exact ⟨tk, x, by simpa [List.getElem?_eq_getElem hi] using e⟩
  obtain ⟨b, e1⟩ := e1
  rw [e1]
  refine wpAny_bind (wpAny_field m₁ rfl (x := .ref f) rfl ?_)
  obtain ⟨oI, hoI, _⟩ := id hit₁
  have N₂ : News h₀ L h₁ ((M, mapObj T (.ref f)) :: (T, tupObj [.ref It] 0) :: (It, oI) :: news) := fun p hp => by
    rcases List.mem_cons.mp hp with rfl | hp
    · exact ⟨m₁, Ma.mn⟩
    · rcases List.mem_cons.mp hp with rfl | hp
      · exact ⟨t₁, Ma.tn⟩
      · rcases List.mem_cons.mp hp with rfl | hp
        · exact ⟨hoI, Ne.symm Ma.ne.2.2, Ma.new⟩
        · exact N₁ p hp
  refine wpAny_bind (wpAny_holding ?_)
  refine Claim.use (un := un + 1) (hC b tk) B F₁ X N₂ hT hk hd (by omega) ?_
  intro v h' tk' hv' F' N'
  subst hv'
  refine wpAny_bind (wpAny_letGo ?_)
  refine wpAny_pure ⟨_, rfl, wpAny_pure ?_⟩
  have q1 := N' _ List.mem_cons_self
  have q2 := N' _ (List.mem_cons_of_mem _ List.mem_cons_self)
  have q3 := N' _ (List.mem_cons_of_mem _ (List.mem_cons_of_mem _ List.mem_cons_self))
  refine hQ _ h' tk' (by rw [List.getElem?_eq_getElem hi, e1]) F' (fun p hp => N' p (List.mem_cons_of_mem _ (List.mem_cons_of_mem _ (List.mem_cons_of_mem _ hp)))) ⟨q1.1, q2.1, hit₁.at fun o e => ?_, Ma.ne, Ma.off, Ma.new, Ma.mn, Ma.tn⟩
  rw [hoI] at e; cases e; exact q3.1
section
variable {prog : Program} {w : World} {A : Around} {E : PySem.Value → Shared → Prop} {s : Shared} {h₀ : Heap} {L : Addr} {m : Str → Option PySem.Value} {news : List (Addr × Obj)} {la M T It : Addr} {vs : List PySem.Value} {n i : Nat} {f : PySem.Value}
theorem map_done {Q : Option PySem.Value → Shared → Prop} (hh : A.handled = none) (hm : (la, listOf vs.toArray n) ∈ news) (F : Fr h₀ L s.heap m) (N : News h₀ L s.heap news) (Ma : MapAt news h₀ L M T It la f vs.length s.heap)
    (hQ : ∀ h' tk, Fr h₀ L h' m → News h₀ L h' news → Q none { s with heap := h', toks := tk }) : wpAny (model prog w) A (pyNext (.ref M)) Q E s := by
  have hT' : s.TypeIs (.ref M) "map" := ⟨_, Ma.m, rfl⟩
  have hx : vs.toArray[vs.length]? = none := by simp
  unfold pyNext
  refine wpAny_bind (wpAny_attempt (wpAny_callSpecial?_slot (name := Str.ofString "__next__") hT' slot_map_next (wpAny_call_entry slot_map_next hT' entry_map_next ?_ (args_map_next _))))
  show wpAny _ _ (field (.ref M) 0 >>= _) _ _ s
  refine wpAny_bind (wpAny_field Ma.m rfl (x := .ref T) rfl ?_)
  show wpAny _ _ (seqItems? (.ref T) >>= _) _ _ s
  refine wpAny_bind (wpAny_seqItems Ma.t rfl ?_)
  dsimp only
  refine wpAny_bind ?_
  show wpAny _ _ (forIn #[PySem.Value.ref It] _ _) _ _ _
  rw [← Array.forIn_toList]
  show wpAny _ _ (forIn [PySem.Value.ref It] _ _) _ _ _
  rw [List.forIn_cons]
  refine wpAny_bind ?_
  refine wpAny_bind (wpAny_holding (wpAny_nextOf_list_end hh Ma.it (isL N hm) hx fun h₁ e he hs₁ => ?_))
  obtain ⟨o, ho, hc⟩ := hs₁
  refine wpAny_bind (wpAny_isInstance (T := "StopIteration") (b := true) ⟨_, ho, hc⟩ isSubtype_stop ?_)
  rw [if_pos rfl]
  exact wpAny_pure (hQ h₁ s.toks ⟨F.ns.at' fun o e => he _ o Ma.ne.2.2 e, fun b o e => he b o (fun q => by rw [q, Ma.new] at e; cases e) (F.keep b o e), F.above⟩ fun p hp => ⟨he _ _ (Ma.off p hp) (N p hp).1, (N p hp).2⟩)
theorem map_self {Q : PySem.Value → Shared → Prop} (Ma : MapAt news h₀ L M T It la f i s.heap) (hQ : Q (.ref M) s) : wpAny (model prog w) A (pyIter (.ref M)) Q E s := by
  have hT' : s.TypeIs (.ref M) "map" := ⟨_, Ma.m, rfl⟩
  refine wpAny_pyIter_slot hT' slot_map_iter (wpAny_call_entry slot_map_iter hT' entry_map_iter ?_ (args_map_iter _))
  show wpAny _ _ (ret (.ref M)) _ _ s
  exact wpAny_pure ⟨_, rfl, "map", _, hT', slot_map_next.lookup, hQ⟩
end
/-- the values are taken up into a list -/
theorem map_extend {D U : Nat} {f : Addr} {bs : List (Array UInt8)} {vs : List PySem.Value} (hv : BytesAre vs bs) (hC : ∀ b t, Claim D U f [.bytes b t] (fun v => v = .bytes b t))
    {w : World} {mean : ExcName → Option PySem.Value} {mg mb : Str → Option PySem.Value} {news : List (Addr × Obj)} {dp un : Nat} {gd : Option (List Code)} {cn : Str} {cs : Scope} {a : Addr} {ccd : PySem.Value} {cl : List (Str × Addr)} {outer : List Env} {A₀ : Around} {base h₀ : Heap} {L : Addr} {m : Str → Option PySem.Value} {la M T It : Addr} {n : Nat}
    (B : Below A₀ base outer h₀) (X : (Mine.lawK w.params).In h₀) (hT : Top Mine.hd.view_1_2 (looseW Mine.hd.view_1_2 []) mean mg mb h₀) (hk : cs.kind = .function) (hm : (la, listOf vs.toArray n) ∈ news)
    (hd : dp + D < recursionLimit) (hu : un + U + 2 < cLine) (hz : vs.length ≤ 1000000) {S : Addr} {R : Result → Shared → Prop} {res : PySem.Value} (hS : @Ne Nat S M ∧ @Ne Nat S T ∧ @Ne Nat S It) (hSn : ∀ p ∈ news, p.1 ≠ S) : ∀ (k i : Nat) (s : Shared) (c : Nat), vs.length - i = k → i ≤ vs.length →
    Fr h₀ L s.heap m → News h₀ L s.heap ((S, listOf (vs.take i).toArray c) :: news) → MapAt news h₀ L M T It la (.ref f) i s.heap →
    (∀ h' tk c', Fr h₀ L h' m → News h₀ L h' ((S, listOf vs.toArray c') :: news) → R (.ok (.ret res)) { s with heap := h', toks := tk }) →
    codeAny (model PySem.Challenge.rw_pd0128_01.row.prog w) (ktrTop dp un gd cn cs L a ccd cl outer) (.builtin "list.extend.loop" ⟨[.ref S, .ref M, res], []⟩) R s := by
  have more : ∀ {i : Nat} {o : Obj} {h : Heap}, MapAt news h₀ L M T It la (.ref f) i h → MapAt ((S, o) :: news) h₀ L M T It la (.ref f) i h := fun Ma =>
    ⟨Ma.m, Ma.t, Ma.it, Ma.ne, fun p hp => by
      rcases List.mem_cons.mp hp with rfl | hp
      · exact hS.2.2
      · exact Ma.off p hp, Ma.new, Ma.mn, Ma.tn⟩
  have less : ∀ {i : Nat} {o : Obj} {h : Heap}, MapAt ((S, o) :: news) h₀ L M T It la (.ref f) i h → MapAt news h₀ L M T It la (.ref f) i h := fun Ma =>
    ⟨Ma.m, Ma.t, Ma.it, Ma.ne, fun p hp => Ma.off p (List.mem_cons_of_mem _ hp), Ma.new, Ma.mn, Ma.tn⟩
  intro k
  induction k with
  | zero =>
    intro i s c hk' hi F N Ma hR
    have hin : i = vs.length := by omega
    subst hin
    refine codeAny_builtin PySem.F.entry_extend_loop ?_
    rw [Around.under_plainId PySem.F.plain_extend_loop _]
    show wpAny _ (ktrTop dp un gd cn cs L a ccd cl outer).in1 (pyNext (.ref M) >>= _) _ _ s
    refine wpAny_bind (map_done (news := (S, listOf (vs.take vs.length).toArray c) :: news) rfl (List.mem_cons_of_mem _ hm) F N (more Ma) fun h' tk F' N' => ?_)
    rw [List.take_length] at N'
    exact wpAny_pure (hR h' tk c F' N')
  | succ k ih =>
    intro i s c hk' hi F N Ma hR
    have hlt : i < vs.length := by omega
    refine codeAny_builtin PySem.F.entry_extend_loop ?_
    rw [Around.under_plainId PySem.F.plain_extend_loop _]
    show wpAny _ (ktrTop dp un gd cn cs L a ccd cl outer).in1 (pyNext (.ref M) >>= _) _ _ s
    refine wpAny_bind (map_item (un := un + 1) (news := (S, listOf (vs.take i).toArray c) :: news) hv hC B X hT hk (List.mem_cons_of_mem _ hm) hd (by omega) hlt F N (more Ma) fun v h' tk hvv F' N' Ma' => ?_)
    have q := N' _ List.mem_cons_self
    show wpAny _ _ (updateSeq S (·.push v) >>= _) _ _ _
    refine wpAny_bind ?_
    have e : Obj.mapSeq (·.push v) (listOf (vs.take i).toArray c) = listOf (vs.take (i + 1)).toArray (c + 1) := by
      rw [List.take_add_one, hvv]
      simp [Obj.mapSeq, W.listOf]
    have hsb : Heap.SameBut S h' (h'.update S (Obj.mapSeq (·.push v))) := Heap.SameBut.update ..
    have hself := Heap.get?_update_self (Obj.mapSeq (·.push v)) q.1 rfl
    rw [e] at hself
    have Ma'' := less Ma'
    refine wpAny_updateSeq q.1 rfl (wpAny_pure ⟨plainId_quiet PySem.F.plain_extend_loop _, ih (i + 1) _ (c + 1) (by omega) hlt ?_ ?_ ?_ fun h'' tk'' c' F'' N'' => hR h'' tk'' c' F'' N''⟩) ?_ ?_
    · exact F'.change hsb q.2.1 q.2.2
    · intro p hp
      rcases List.mem_cons.mp hp with rfl | hp
      · exact ⟨hself, q.2⟩
      · have z := N' p (List.mem_cons_of_mem _ hp)
        exact ⟨(hsb.2 _ (hSn p hp)).trans z.1, z.2⟩
    · exact ⟨(hsb.2 _ (Ne.symm hS.1)).trans Ma''.m, (hsb.2 _ (Ne.symm hS.2.1)).trans Ma''.t, Ma''.it.at fun o e => (hsb.2 _ (Ne.symm hS.2.2)).trans e, Ma''.ne, Ma''.off, Ma''.new, Ma''.mn, Ma''.tn⟩
    · rw [sizeLine_eq]; simp only [List.size_toArray, List.length_take]; omega
    · rw [sizeLine_eq]; simp only [Array.size_push, List.size_toArray, List.length_take]; omega
theorem fresh_at {h₀ h : Heap} {L : Addr} {m : Str → Option PySem.Value} (F : Fr h₀ L h m) {k : Addr} (hk : h.objs.size ≤ k) : k ≠ L ∧ h₀.get? k = none :=
  ⟨Nat.ne_of_gt (Nat.lt_of_lt_of_le F.ns.lt hk), by
    cases q : h₀.get? k with
    | none => rfl
    | some o => exact absurd (Nat.lt_of_lt_of_le (Heap.lt_size (F.keep _ _ q)) hk) (Nat.lt_irrefl _)⟩
theorem collect_map {D U : Nat} {f : Addr} {bs : List (Array UInt8)} {vs : List PySem.Value} (hv : BytesAre vs bs) (hC : ∀ b t, Claim D U f [.bytes b t] (fun v => v = .bytes b t))
    {w : World} {mean : ExcName → Option PySem.Value} {mg mb : Str → Option PySem.Value} {news : List (Addr × Obj)} {dp un : Nat} {gd : Option (List Code)} {cn : Str} {cs : Scope} {a : Addr} {ccd : PySem.Value} {cl : List (Str × Addr)} {outer : List Env} {A₀ : Around} {base h₀ : Heap} {L : Addr} {m : Str → Option PySem.Value} {la M T It : Addr} {n : Nat}
    (B : Below A₀ base outer h₀) (X : (Mine.lawK w.params).In h₀) (hT : Top Mine.hd.view_1_2 (looseW Mine.hd.view_1_2 []) mean mg mb h₀) (hk : cs.kind = .function) (hm : (la, listOf vs.toArray n) ∈ news)
    (hd : dp + D < recursionLimit) (hu : un + U + 3 < cLine) (hz : vs.length ≤ 1000000) {s : Shared} {Q : List PySem.Value → Shared → Prop} {E : PySem.Value → Shared → Prop}
    (F : Fr h₀ L s.heap m) (N : News h₀ L s.heap news) (Ma : MapAt news h₀ L M T It la (.ref f) 0 s.heap)
    (hQ : ∀ h' tk, Fr h₀ L h' m → News h₀ L h' news → Q vs { s with heap := h', toks := tk }) :
    wpAny (model PySem.Challenge.rw_pd0128_01.row.prog w) (ktrTop dp un gd cn cs L a ccd cl outer) (collect (.ref M)) Q E s := by
  obtain ⟨S, hSz⟩ : ∃ S, S = s.heap.objs.size := ⟨_, rfl⟩
  have lt : ∀ {b o}, s.heap.get? b = some o → @Ne Nat S b := fun e => by have := Heap.lt_size e; rw [← hSz] at this; exact Nat.ne_of_gt this
  have hSM := lt Ma.m
  have hST := lt Ma.t
  have hSI : @Ne Nat S It := by obtain ⟨o, ho, _⟩ := Ma.it; exact lt ho
  have hSf := fresh_at F (k := S) (by rw [hSz]; exact Nat.le_refl _)
  have hSn : ∀ p ∈ news, p.1 ≠ S := fun p hp => Ne.symm (lt (N p hp).1)
  have hTM : ∀ {h : Heap} {i}, MapAt news h₀ L M T It la (.ref f) i h → ∀ g d tk os, Shared.TypeIs ⟨h, g, d, tk, os⟩ (.ref M) "map" := fun Ma _ _ _ _ => ⟨_, Ma.m, rfl⟩
  unfold collect
  refine wpAny_bind (wpAny_runValue (codeAny_builtin PySem.F.entry_proto_collect ?_))
  rw [Around.under_plainId PySem.F.plain_proto_collect _]
  show wpAny _ (ktrTop dp un gd cn cs L a ccd cl outer).in1 (newList [] >>= fun l => again (.builtin "list.__iadd__" ⟨[l, .ref M], []⟩)) _ _ s
  refine wpAny_bind (wpAny_newObj_type ?_)
  rw [← hSz]
  refine wpAny_pure ⟨plainId_quiet PySem.F.plain_list_iadd _, codeAny_builtin PySem.F.entry_list_iadd ?_⟩
  rw [Around.under_plainId PySem.F.plain_list_iadd _]
  have up : ∀ b o, s.heap.get? b = some o → (s.heap.push { cls := .type "list", data := .seq ([] : List PySem.Value).toArray }).get? b = some o := fun b o e => Heap.get?_push_of_some _ e
  have Ma₁ : MapAt news h₀ L M T It la (.ref f) 0 (s.heap.push { cls := .type "list", data := .seq ([] : List PySem.Value).toArray }) := ⟨up _ _ Ma.m, up _ _ Ma.t, Ma.it.at fun o e => up _ o e, Ma.ne, Ma.off, Ma.new, Ma.mn, Ma.tn⟩
  have hS₁ : (s.heap.push { cls := .type "list", data := .seq ([] : List PySem.Value).toArray }).get? S = some { cls := .type "list", data := .seq ([] : List PySem.Value).toArray } := by rw [hSz]; exact Heap.get?_push_size _ rfl
  have F₁ := F.keeps up
  have N₁ : News h₀ L (s.heap.push { cls := .type "list", data := .seq ([] : List PySem.Value).toArray }) news := N.grown up
  generalize s.heap.push { cls := .type "list", data := .seq ([] : List PySem.Value).toArray } = h₁ at Ma₁ hS₁ F₁ N₁
  show wpAny _ (ktrTop dp un gd cn cs L a ccd cl outer).in1 (Builtin.List.listExtendWith (.ref S) (.ref M) (.ref S)) _ _ _
  unfold Builtin.List.listExtendWith
  refine wpAny_bind (wpAny_typeOf (hTM Ma₁ _ _ _ _) ?_)
  have h1 : Builtin.List.listSameRef (.ref S) (.ref M) = false := by simp [Builtin.List.listSameRef]; exact hSM
  have h2 : (PySem.Value.type "map" == PySem.Value.type "list") = false := by decide
  have h3 : (PySem.Value.type "map" == PySem.Value.type "tuple") = false := by decide
  simp only [h1, h2, h3, Bool.or_false, Bool.false_eq_true, if_false]
  refine wpAny_bind (map_self Ma₁ ?_)
  refine wpAny_bind (wpAny_holding ?_)
  unfold Builtin.List.listLengthHint
  refine wpAny_bind (wpAny_specialOf (hTM Ma₁ _ _ _ _) map_no_len ?_)
  show wpAny _ _ (specialOf (PySem.Value.ref M) (Str.ofString "__length_hint__") >>= _) _ _ _
  refine wpAny_bind (wpAny_specialOf (hTM Ma₁ _ _ _ _) map_no_hint ?_)
  refine wpAny_pure ?_
  show wpAny _ _ (rule "list.extend.makes-room" >>= fun _ => Builtin.List.listTouch (.ref S) >>= fun _ =>
    again (.builtin "list.extend.loop" ⟨[.ref S, .ref M, .ref S], []⟩)) _ _ _
  refine wpAny_bind (wpAny_rule ?_)
  refine wpAny_bind ?_
  show wpAny _ _ (updateSeq S (·.push .none) >>= fun _ => updateSeq S (·.pop)) _ _ _
  refine wpAny_bind (wpAny_updateSeq hS₁ rfl ?_)
  have hS₂ := Heap.get?_update_self (Obj.mapSeq (·.push PySem.Value.none)) hS₁ rfl
  have sb₂ : Heap.SameBut S h₁ (h₁.update S (Obj.mapSeq (·.push PySem.Value.none))) := Heap.SameBut.update ..
  refine wpAny_updateSeq hS₂ rfl ?_
  have hS₃ := Heap.get?_update_self (Obj.mapSeq (·.pop)) hS₂ rfl
  have sb₃ : Heap.SameBut S (h₁.update S (Obj.mapSeq (·.push PySem.Value.none))) ((h₁.update S (Obj.mapSeq (·.push PySem.Value.none))).update S (Obj.mapSeq (·.pop))) := Heap.SameBut.update ..
  generalize (h₁.update S (Obj.mapSeq (·.push PySem.Value.none))) = h₂ at hS₃ sb₂ sb₃
  generalize h₂.update S (Obj.mapSeq (·.pop)) = h₃ at hS₃ sb₃
  have k3 : ∀ b, b ≠ S → h₃.get? b = h₁.get? b := fun b hb => (sb₃.2 b hb).trans (sb₂.2 b hb)
  refine wpAny_pure ⟨plainId_quiet PySem.F.plain_extend_loop _, map_extend (m := m) hv hC B X hT hk hm hd (by omega) hz ⟨hSM, hST, hSI⟩ hSn _ 0 _ 2 rfl (Nat.zero_le _) ?_ ?_ ?_ fun h' tk c' F' N' => ?_⟩
  · exact (F₁.change sb₂ hSf.1 hSf.2).change sb₃ hSf.1 hSf.2
  · intro p hp
    rcases List.mem_cons.mp hp with rfl | hp
    · exact ⟨hS₃, hSf⟩
    · exact ⟨(k3 _ (hSn p hp)).trans (N₁ p hp).1, (N₁ p hp).2⟩
  · exact ⟨(k3 _ (Ne.symm hSM)).trans Ma₁.m, (k3 _ (Ne.symm hST)).trans Ma₁.t, Ma₁.it.at fun o e => (k3 _ (Ne.symm hSI)).trans e, Ma₁.ne, Ma₁.off, Ma₁.new, Ma₁.mn, Ma₁.tn⟩
  · have q := N' _ List.mem_cons_self
    show wpAny _ _ (load S >>= _) _ _ _
    refine wpAny_bind (wpAny_load q.1 ?_)
    exact wpAny_pure (hQ h' tk F' fun p hp => N' p (List.mem_cons_of_mem _ hp))
theorem call_tuple_map {D U : Nat} {f : Addr} {bs : List (Array UInt8)} {vs : List PySem.Value} (hv : BytesAre vs bs) (hC : ∀ b t, Claim D U f [.bytes b t] (fun v => v = .bytes b t))
    {w : World} {mean : ExcName → Option PySem.Value} {mg mb : Str → Option PySem.Value} {news : List (Addr × Obj)} {dp un : Nat} {gd : Option (List Code)} {cn : Str} {cs : Scope} {a : Addr} {ccd : PySem.Value} {cl : List (Str × Addr)} {outer : List Env} {A₀ : Around} {base h₀ : Heap} {L : Addr} {m : Str → Option PySem.Value} {la M T It : Addr} {n : Nat}
    (B : Below A₀ base outer h₀) (X : (Mine.lawK w.params).In h₀) (hT : Top Mine.hd.view_1_2 (looseW Mine.hd.view_1_2 []) mean mg mb h₀) (hk : cs.kind = .function) (hm : (la, listOf vs.toArray n) ∈ news)
    (hd : dp + D < recursionLimit) (hu : un + U + 6 < cLine) (hz : vs.length ≤ 1000000) {s : Shared} {Q : PySem.Value → Shared → Prop} {E : PySem.Value → Shared → Prop}
    (F : Fr h₀ L s.heap m) (N : News h₀ L s.heap news) (Ma : MapAt news h₀ L M T It la (.ref f) 0 s.heap)
    (hQ : ∀ t h' tk, Fr h₀ L h' m → News h₀ L h' ((t, tupObj vs 0) :: news) → (∀ p ∈ news, p.1 < t) → Q (.ref t) { s with heap := h', toks := tk }) :
    wpAny (model PySem.Challenge.rw_pd0128_01.row.prog w) (ktrTop dp un gd cn cs L a ccd cl outer) (call (.type "tuple") [.ref M]) Q E s := by
  have hTM : s.TypeIs (.ref M) "map" := ⟨_, Ma.m, rfl⟩
  refine callType_codes (Q₁ := fun obj s₁ => s₁.TypeIs obj "tuple" ∧ Q obj s₁) PySem.F.called_tuple (PySem.F.typeCall_tuple_1 _) PySem.F.entry_object_init ?_ fun obj s₁ h₁ => ?_
  · refine codeAny_of_tree ?_
    show wpAny _ (ktrTop dp (un + 2) gd cn cs L a ccd cl outer) (do checkBuiltinCall "tuple.__new__" ⟨[.type "tuple", .ref M], []⟩; again (.builtin "tuple.__new__" ⟨[.type "tuple", .ref M], []⟩)) _ _ s
    refine wpAny_bind (wpAny_of_eq (PySem.F.newCall_tuple_1 _) (wpAny_pure ⟨plainId_quiet PySem.F.plain_tuple_new _, codeAny_builtin PySem.F.entry_tuple_new ?_⟩))
    rw [Around.under_plainId PySem.F.plain_tuple_new _]
    have hsub := sub_tuple_self
    have hinit := init_tuple_lookup
    have hmh := madeHere_tuple
    have hcol : ∀ {Q : List PySem.Value → Shared → Prop} {E : PySem.Value → Shared → Prop}, (∀ h' tk, Fr h₀ L h' m → News h₀ L h' news → Q vs { s with heap := h', toks := tk }) → wpAny (model PySem.Challenge.rw_pd0128_01.row.prog w) (ktrTop dp un gd cn cs L a ccd cl outer).in1.in1 (collect (.ref M)) Q E s :=
      fun q => collect_map (un := un + 2) hv hC B X hT hk hm hd (by omega) hz F N Ma q
    wp_walk using wpAny_typeOf hTM, hcol
    intro h' tk F' N'
    show wpAny _ _ (Builtin.Tuple.tupleExact vs.toArray >>= fun v => ret v) _ _ _
    unfold Builtin.Tuple.tupleExact
    refine wpAny_bind (wpAny_newObj_type ?_ (by show vs.toArray.size ≤ sizeLine; rw [sizeLine_eq]; simp only [List.size_toArray]; omega))
    have up : ∀ b o, h'.get? b = some o → (h'.push { cls := .type "tuple", data := .seq vs.toArray }).get? b = some o := fun b o e => Heap.get?_push_of_some _ e
    have f1 := fresh_at F' (k := h'.objs.size) (Nat.le_refl _)
    have g1 : (h'.push { cls := .type "tuple", data := .seq vs.toArray }).get? h'.objs.size = some (tupObj vs 0) := Heap.get?_push_size _ rfl
    refine wpAny_pure ⟨⟨_, g1, rfl⟩, hQ _ _ tk (F'.keeps up) (fun p hp => ?_) fun p hp => Heap.lt_size (N' p hp).1⟩
    rcases List.mem_cons.mp hp with rfl | hp
    · exact ⟨g1, f1⟩
    · exact ⟨up _ _ (N' p hp).1, (N' p hp).2⟩
  · exact ⟨h₁.1, PySem.F.args_object_init_2 obj _, object_init_meets PySem.F.called_tuple.init.lookup PySem.F.called_tuple.made (by decide) _ w _ _ s₁ ⟨h₁.1, rfl, h₁.2⟩⟩
theorem BytesAre.getV : ∀ {vs : List PySem.Value} {bs : List (Array UInt8)}, BytesAre vs bs → ∀ {i : Nat} {v : PySem.Value}, vs[i]? = some v → ∃ b t, v = .bytes b t ∧ bs[i]? = some b
  | _, _, .nil, i, v, h => by simp at h
  | _, _, .cons (b := b) (t := t) h, 0, v, e => by simp at e; exact ⟨b, t, e.symm, by simp⟩
  | _, _, .cons h, i + 1, v, e => by simpa using h.getV (by simpa using e)
/-- the inner block, i pieces on -/
noncomputable def InnerJ (nw₀ : List (Addr × Obj)) (bs : List (Array UInt8)) (i : Nat) (ys : List PySem.Value) (nw : List (Addr × Obj)) : Prop := nw = nw₀ ∧ BytesAre ys ((bs.take i).filter keepB)
theorem InnerJ.start {nw : List (Addr × Obj)} {bs : List (Array UInt8)} : InnerJ nw bs 0 [] nw := ⟨rfl, by simp; exact .nil⟩
theorem InnerJ.len {nw₀ : List (Addr × Obj)} {bs : List (Array UInt8)} {i : Nat} {ys : List PySem.Value} {nw : List (Addr × Obj)} (h : InnerJ nw₀ bs i ys nw) : ys.length ≤ i := by
  rw [h.2.length]
  exact Nat.le_trans (List.length_filter_le _ _) (by rw [List.length_take]; omega)
theorem InnerJ.keep {nw₀ : List (Addr × Obj)} {bs : List (Array UInt8)} {i : Nat} {ys : List PySem.Value} {c : Array UInt8} {t : Tok} (h : InnerJ nw₀ bs i ys nw₀) (hc : bs[i]? = some c) (hk : keepB c = true) : InnerJ nw₀ bs (i + 1) (ys ++ [.bytes c t]) nw₀ := by
  refine ⟨rfl, ?_⟩
  rw [List.take_add_one, hc, List.filter_append]
  have : List.filter keepB (some c).toList = [c] := by simp [hk]
  rw [this]
  exact h.2.snoc
theorem InnerJ.drop {nw₀ : List (Addr × Obj)} {bs : List (Array UInt8)} {i : Nat} {ys : List PySem.Value} {c : Array UInt8} (h : InnerJ nw₀ bs i ys nw₀) (hc : bs[i]? = some c) (hk : keepB c = false) : InnerJ nw₀ bs (i + 1) ys nw₀ := by
  refine ⟨rfl, ?_⟩
  rw [List.take_add_one, hc, List.filter_append]
  have : List.filter keepB (some c).toList = [] := by simp [hk]
  rw [this, List.append_nil]
  exact h.2
theorem InnerJ.fin {nw₀ : List (Addr × Obj)} {bs : List (Array UInt8)} {vs ys : List PySem.Value} {nw : List (Addr × Obj)} (hv : BytesAre vs bs) (h : InnerJ nw₀ bs vs.length ys nw) : nw = nw₀ ∧ BytesAre ys (bs.filter keepB) := by
  refine ⟨h.1, ?_⟩
  have := h.2
  rw [hv.length, List.take_length] at this
  exact this
/-- the loop of commonpath, i pieces on -/
noncomputable def LoopJ (nw₀ : List (Addr × Obj)) (r1 r2 : Addr) (x1 x2 : List (Array UInt8)) (i : Nat) (m : Str → Option PySem.Value) (nw : List (Addr × Obj)) : Prop :=
  At m (Str.ofString "s2") (.ref r2) ∧ At m (Str.ofString "s1") (.ref r1) ∧ At m (Str.ofString "common") (.ref r1) ∧ At m (Str.ofString "isabs") (.bool false) ∧ nw = nw₀ ∧ x1.take i = x2.take i
theorem LoopJ.start {nw : List (Addr × Obj)} {r1 r2 : Addr} {x1 x2 : List (Array UInt8)} {m : Str → Option PySem.Value} (h1 : At m (Str.ofString "s2") (.ref r2)) (h2 : At m (Str.ofString "s1") (.ref r1)) (h3 : At m (Str.ofString "common") (.ref r1)) (h4 : At m (Str.ofString "isabs") (.bool false)) : LoopJ nw r1 r2 x1 x2 0 m nw :=
  ⟨h1, h2, h3, h4, rfl, rfl⟩
theorem take_same {α : Type} {xs ys : List α} {i : Nat} (h : xs.take i = ys.take i) (h1 : i < xs.length) (h2 : i < ys.length) (he : xs[i] = ys[i]) : xs.take (i + 1) = ys.take (i + 1) := by
  rw [List.take_add_one, List.take_add_one, h, List.getElem?_eq_getElem h1, List.getElem?_eq_getElem h2, he]
theorem toList_eq_of {x y : Array UInt8} (h : (x.toList != y.toList) = false) : x = y := by
  have : (x.toList == y.toList) = true := by
    cases q : (x.toList == y.toList) with
    | true => rfl
    | false => rw [bne, q] at h; exact absurd h (by decide)
  exact Array.toList_inj.mp (beq_iff_eq.mp this)
theorem toList_ne_of {x y : Array UInt8} (h : (x.toList != y.toList) = true) : x ≠ y := by
  rintro rfl
  simp at h
section
variable {prog : Program} {w : World} {A : Around} {E : PySem.Value → Shared → Prop} {s : Shared} {h₀ : Heap} {L : Addr} {m : Str → Option PySem.Value} {news : List (Addr × Obj)}
theorem ldX {M : Model} {cn : Str} {cs : Scope} {a : Addr} {ccd : PySem.Value} {cl : List (Str × Addr)} {x : Str} {pos : Pos} {v : PySem.Value} {Q : PySem.Value → Shared → Prop} (F : Fr h₀ L s.heap m) (hv : At m x v) (h : Q v s)
    (hk : cs.kind = .function := by rfl) (hx : (envX cn cs L a ccd cl).kindOf x = some .local := by rfl) (hd : (x == ("__debug__" : Str)) = false := by decide) :
    wpAny M A (eval (.Name x pos) (envX cn cs L a ccd cl)) Q E s := nameX_L F hv h hk hx hd
theorem call_joinN {b : Array UInt8} {t : Tok} {a : Addr} {vs : List PySem.Value} {n : Nat} {bs : List (Array UInt8)} {Q : PySem.Value → Shared → Prop} (N : News h₀ L s.heap news) (hm : (a, listOf vs.toArray n) ∈ news) (hv : BytesAre vs bs) (hb : b.size ≤ 3) (hz : (∀ x ∈ bs, x.size ≤ 1000) ∧ bs.length ≤ 1010)
    (h : ∀ t' k, Q (.bytes (Builtin.Bytes.joined b bs) t') { s with toks := k }) : wpAny (model prog w) A (call (.builtin "bytes.join") [.bytes b t, .ref a]) Q E s :=
  call_join hv (N _ hm).1 (joined_sum hb hz.1 hz.2) (joined_size hb hz.1 hz.2) h
end
end
theorem rules_C6 : True := by
  k_with_none
  k_with "m:call type:type" => (k_here; (with_reducible show wpAny _ _ (call (Value.type "type") [Value.bytes _ _]) _ _ _); (refine type_bytes ?_))
  k_with "m:call builtin:issubclass" => (k_here; (show wpAny _ _ (call (Value.builtin "issubclass") [Value.type "bytes", Value.ref _]) _ _ _); k_dflt (refine' issub_N (by (k_asm)) (by (k_mem)) ?_))
  k_with "m:mine:news" => first | assumption | (refine cb_drop (by assumption) ?_; intro p hp; repeat (first | exact hp | refine List.mem_cons_of_mem _ ?_))
  k_with "m:mine:size" => first | omega | (simp only [Array.size_append, List.size_toArray, List.length_cons, List.length_nil] at *; omega)
  k_with "m:getMethod bytes" => (k_here; (with_reducible first | refine meth FB.slot_bytes_startswith FB.type_bytes_startswith ?_ | refine meth FB.slot_bytes_endswith FB.type_bytes_endswith ?_ | refine meth slot_rfind type_rfind ?_ | refine meth slot_rstrip type_rstrip ?_ | refine meth slot_split type_split ?_ | refine meth slot_join type_join ?_))
  k_with "m:call builtin:bytes.startswith" => (k_here; (show wpAny _ _ (call (Value.builtin "bytes.startswith") [Value.bytes _ _, Value.bytes _ _]) _ _ _); (refine call_starts ?_))
  k_with "m:call builtin:bytes.endswith" => (k_here; (show wpAny _ _ (call (Value.builtin "bytes.endswith") [Value.bytes _ _, Value.bytes _ _]) _ _ _); (refine call_ends ?_))
  k_with "m:call builtin:bytes.rfind" => (k_here; (show wpAny _ _ (call (Value.builtin "bytes.rfind") [Value.bytes _ _, Value.bytes _ _]) _ _ _); (refine call_rfind ?_))
  k_with "m:call builtin:bytes.rstrip" => (k_here; (show wpAny _ _ (call (Value.builtin "bytes.rstrip") [Value.bytes _ _, Value.bytes _ _]) _ _ _); (refine call_rstrip (by walk_at "mine:size") ?_); intro _ _)
  k_with "m:truthy bytes" => (k_here; (with_reducible show wpAny _ _ (truthy (Value.bytes _ _)) _ _ _); (refine truthy_bytes (by walk_at "mine:size") ?_))
  k_with "m:call builtin:len" => (k_here; (show wpAny _ _ (call (Value.builtin "len") [Value.bytes _ _]) _ _ _); (refine len_bytes (by walk_at "mine:size") ?_))
  k_with "m:subscriptTail" => (k_here; (with_reducible show wpAny _ _ (subscriptTail _ (Expr.Slice _ _ none _) (Value.bytes _ _) (Value.ref _)) _ _ _); (with_reducible rename Fr _ _ _ _ => F'); (with_reducible rename News _ _ _ _ => N'); (refine slice_B (s := ⟨_, _, _, _, _⟩) F' N' (by constructor) (by constructor) (by walk_at "mine:size") ?_); intro _ _ _ F' N' hsz')
  k_with "m:binaryOp Mult bytes int" => (k_here; (with_reducible show wpAny _ _ (binaryOp Operator.Mult (Value.bytes _ _) (Value.int _ _)) _ _ _); (refine mul_one (by omega) (by walk_at "mine:size") ?_); intro _ _)
  k_with "m:binaryOp Add bytes bytes" => (k_here; (with_reducible show wpAny _ _ (binaryOp Operator.Add (Value.bytes _ _) (Value.bytes _ _)) _ _ _); (refine KBy.add_bytes (by walk_at "mine:size") ?_); intro _ _)
  k_with "m:compareOp NotEq bytes bytes" => (k_here; (refine ne_bytes ?_))
  k_with "m:compareOp Eq bytes bytes" => (k_here; (refine eq_bytes ?_))
  k_with "m:exec Try" => (k_here; (refine Try_calm ?_))
  k_with "m:mine:passes_own" => exact fun _ _ h => (show False from h).elim
  k_with "m:inplaceOp Add" => (k_here; (with_reducible show wpAny _ _ (inplaceOp Operator.Add (Value.bytes _ _) (Value.bytes _ _)) _ _ _); (refine iadd_bytes (by walk_at "mine:size") ?_); intro _ _)
  k_with "m:call builtin:bytes.split" => (k_here; (show wpAny _ _ (call (Value.builtin "bytes.split") [Value.bytes _ _, Value.bytes _ _]) _ _ _); k_dflt (refine' call_split1 (by (k_asm)) (by (k_asm)) (by (walk_at "mine:size")) ?_); intro l' h' vs' k' hv' hn' F' N' l1'; (try dsimp only))
  k_with "m:call builtin:len" => (k_here; (show wpAny _ _ (call (Value.builtin "len") [Value.ref _]) _ _ _); k_dflt (refine' len_L (by (k_asm)) (by (k_mem)) (by (omega)) ?_); intro _ _)
  k_with "m:mine:at" => with_reducible (first | exact At.here | assumption | exact At.skip (by decide) (by walk_at "mine:at"))
  k_with "m:eval Name" => (k_here; (with_reducible fail_if_success show wpAny _ _ (eval _ (compEnvC _ _ _ _)) _ _ _); (with_reducible fail_if_success show wpAny _ _ (eval _ (compEnv _ _ _)) _ _ _); (with_reducible fail_if_success show wpAny _ _ (eval _ (envOfC _ _ _ _ _)) _ _ _); (with_reducible rename At _ _ _ => hAt'); k_dflt (refine' ldA (by (k_asm)) (by (walk_at "mine:at")) ?_))
  k_with "m:loadName" => (k_here; (with_reducible fail_if_success show wpAny _ _ (loadName (envOfC _ _ _ _ _) _) _ _ _); (with_reducible rename At _ _ _ => hAt'); k_dflt (refine' ldnA (by (k_asm)) (by (walk_at "mine:at")) ?_))
  k_with "m:subscriptTail" => (k_here; (with_reducible show wpAny _ _ (subscriptTail _ _ (Value.ref _) (Value.int (-1) _)) _ _ _); k_dflt (refine' item_last (by (k_asm)) (by (k_mem)) ?_))
  k_with "m:mine:enterC" => (refine' code_defC (by (k_asm)) (by (k_asm)) (by (k_asm)) (by (k_asm)) (by (k_asm)) (by (exact rfl)) (by (exact rfl)) (by (assumption)) (by (k_is)) (by (k_is)) (by (ktr_room)) (by (exact BindsTo.of_eq rfl)) (by (exact rfl)) (by (decide +kernel)) ?_ (by (exact rfl)) (by (exact rfl)) (by (exact rfl)); k_whole; intro g' L' h' tk' cells' FG' F' N' Y' B' X' T' l1; (have hL9 := Lts.mk' l1; (repeat (replace hL9 := Lts.drop hL9))); (try k_lt l1); k_cells Y'; (try simp only [List.cons_append, List.nil_append] at N'); (try dsimp only); (try k_lift B'); (try k_fold))
  k_with "m:call ref" => (k_here; (with_reducible show wpAny _ _ (call (Value.ref 94) [Value.bytes _ _]) _ _ _); k_dflt (refine' Claim.use (fspath_ok _ _) (by (k_asm)) (by (k_asm)) (by (k_asm)) (by (k_asm)) (by (k_asm)) (by (first | exact rfl | assumption)) (by (ktr_room)) (by (ktr_units)) ?_); intro v h' tk' hv F' N'; subst hv; (try dsimp only); (try k_fold))
  k_with "m:call ref" => (k_here; (with_reducible show wpAny _ _ (call (Value.ref 108) [Value.bytes _ _]) _ _ _); k_dflt (refine' Claim.use (get_sep_ok _ _) (by (k_asm)) (by (k_asm)) (by (k_asm)) (by (k_asm)) (by (k_asm)) (by (first | exact rfl | assumption)) (by (ktr_room)) (by (ktr_units)) ?_); intro v h' tk' hv F' N'; (obtain ⟨t9, hv⟩ := hv); subst hv; (try dsimp only); (try k_fold))
  k_with "m:call ref" => (k_here; (with_reducible show wpAny _ _ (call (Value.ref 122) [Value.bytes _ _]) _ _ _); k_dflt (refine' Claim.use (dirname_ok _ _ (by (walk_at "mine:size"))) (by (k_asm)) (by (k_asm)) (by (k_asm)) (by (k_asm)) (by (k_asm)) (by (first | exact rfl | assumption)) (by (ktr_room)) (by (ktr_units)) ?_); intro v h' tk' hv F' N'; (obtain ⟨t9, hv⟩ := hv); subst hv; (try dsimp only); (try k_fold))
  k_with "m:mine:k_all" => ((with_reducible rename Lts _ _ => hL8); exact Lts.ne hL8 (by omega))
  k_with "m:call type:map" => (k_here; (show wpAny _ _ (call (Value.type "map") [Value.ref _, Value.ref _]) _ _ _); k_dflt (refine' call_map_K (by (k_asm)) (by (k_asm)) (by (k_mem)) ?_); intro h' M' T' It' F' N' Ma'; (try dsimp only))
  k_with "m:call type:tuple" => (k_here; (show wpAny _ _ (call (Value.type "tuple") [Value.ref _]) _ _ _); k_dflt (refine' call_tuple_map (.cons (.cons .nil)) fspath_ok (by (k_asm)) (by (k_asm)) (by (k_asm)) (by (first | exact rfl | assumption)) (by (k_mem)) (by (ktr_room)) (by (ktr_units)) (by (exact Nat.le_of_ble_eq_true rfl)) (by (k_asm)) (by (k_asm)) Ma' ?_); intro t' h' tk' F' N' l1'; (try k_lt l1'); (try dsimp only); (try k_fold))
  k_with "m:exec Assign cons ListComp" => refine Stop.go ?_
  k_with "m:assign Tuple" => (k_here; (with_reducible show wpAny _ _ (assign (Expr.Tuple [Expr.Name _ _] _ _) _ (Value.ref _)) _ _ _); k_dflt (refine' assign_set1 rfl rfl (by (k_asm)) (by (k_asm)) (by (k_mem)) ?_); intro h' F' N'; (try dsimp only))
  k_with "m:eval Name" => (k_here; (with_reducible fail_if_success show wpAny _ _ (eval _ (compEnvC _ _ _ _)) _ _ _); (with_reducible fail_if_success show wpAny _ _ (eval _ (compEnv _ _ _)) _ _ _); (with_reducible rename At _ _ _ => hAt'); k_dflt (refine' ldX (by (k_asm)) (by (walk_at "mine:at")) ?_ (by (rfl)) (by (rfl))))
  k_with "m:exec For Tuple Call" => refine Stop.go ?_
  k_with "m:call builtin:min" => refine Stop.go ?_
  k_with "m:call builtin:max" => refine Stop.go ?_
  k_with "m:mine:mem" => first | k_mem | (with_reducible assumption) | (refine List.mem_cons_of_mem _ ?_; walk_at "mine:mem")
  k_with "m:subscriptTail" => (k_here; (with_reducible show wpAny _ _ (subscriptTail _ _ (Value.ref _) (Value.int _ _)) _ _ _); k_dflt (refine' item_L (by (k_asm)) (by (walk_at "mine:mem")) (by (omega)) (by (omega)) (by (with_reducible assumption)) ?_))
  k_with "m:subscriptTail" => (k_here; (with_reducible show wpAny _ _ (subscriptTail _ (Expr.Slice _ _ none _) (Value.ref _) (Value.ref _)) _ _ _); (with_reducible rename Fr _ _ _ _ => F'); (with_reducible rename News _ _ _ _ => N'); k_dflt (refine' slice_LL (s := ⟨_, _, _, _, _⟩) F' N' (by (walk_at "mine:mem")) (by (constructor)) (by (constructor)) (by (omega)) ?_); intro D' h' F' N' l1'; (try simp only [pick_upto] at N'); (try dsimp only))
  k_with "m:call builtin:bytes.join" => (k_here; (show wpAny _ _ (call (Value.builtin "bytes.join") [Value.bytes _ _, Value.ref _]) _ _ _); k_dflt (refine' call_joinN (by (k_asm)) (by (walk_at "mine:mem")) (by (first | assumption | solve_by_elim)) (by (exact Nat.le_of_ble_eq_true rfl)) (by (with_reducible assumption)) ?_); intro _ _; (try dsimp only))
  k_with "m:call type:enumerate" => (k_here; (show wpAny _ _ (call (Value.type "enumerate") [Value.ref _]) _ _ _); k_dflt (refine' call_enum_K (by (k_asm)) (by (k_asm)) (by (walk_at "mine:mem")) ?_); intro _ _ hEn'; (try dsimp only at hEn' ⊢))
  trivial
section
set_option maxRecDepth 100000 in
set_option maxHeartbeats 8000000 in
theorem common_ok (b c : Array UInt8) (t u : Tok) (la : Addr) (hb : b.size ≤ 1000) (hc : c.size ≤ 1000) (hsb : startsRaw b #[47] = false) (hsc : startsRaw c #[47] = false) :
  ∀ (w : World) (mean : ExcName → Option PySem.Value) (mg mb : Str → Option PySem.Value) (news : List (Addr × Obj)) (dp un : Nat) (gd : Option (List Code)) (cn : Str) (cs : Scope) (a : Addr) (ccd : PySem.Value) (cl : List (Str × Addr)) (outer : List Env) (A₀ : Around) (base h₀ : Heap) (L : Addr) (m : Str → Option PySem.Value) (s : Shared) (Q E : PySem.Value → Shared → Prop),
    Below A₀ base outer h₀ → Fr h₀ L s.heap m → (Mine.lawK w.params).In h₀ → News h₀ L s.heap ((la, listOf [PySem.Value.bytes b t, PySem.Value.bytes c u].toArray 0) :: news) → Top Mine.hd.view_1_2 (looseW Mine.hd.view_1_2 []) mean mg mb h₀ → cs.kind = .function →
    dp + 5 < recursionLimit → un + 40 < cLine →
    (∀ (v : PySem.Value) (h' : Heap) (tk' : Nat), (∃ t', v = .bytes (Builtin.Bytes.joined #[47] (commonRaw b c)) t') → Fr h₀ L h' m → News h₀ L h' ((la, listOf [PySem.Value.bytes b t, PySem.Value.bytes c u].toArray 0) :: news) → Q v { s with heap := h', toks := tk' }) →
    wpAny (model PySem.Challenge.rw_pd0128_01.row.prog w) (ktrTop dp un gd cn cs L a ccd cl outer) (call (.ref 127) [.ref la]) Q E s := by
  k_fill
  intro w mean mg mb news dp un gd cn cs a ccd cl outer A₀ base h₀ L m s Q E B F X N T hk hd hu hret
  refine wpAny_call ?_
  k_dflt walk_at "mine:enterC"
  k_steps
  (with_reducible rename Fr _ _ _ _ => F₁)
  (with_reducible rename News _ _ _ _ => N₁)
  refine wpP.any (Assign_LC every_kept (by rfl) (by with_unfolding_all rfl) rfl (by decide) ?src)
  refine wpP.of_any ?_
  k_steps
  refine comp_tup2 every_kept rfl (by decide) rfl (by rfl) F₁ N₁ (by k_mem) ?_
  intro h₂ tk₂ I oI C oC D m₂ off ne hoC hm₂ F₂ N₂
  refine Tests_nil ?_
  rw [if_pos rfl]
  refine wpP.of_any ?_
  k_steps
  refine CEnd.intro1 (by assumption) (by assumption) (by assumption) off ⟨Nat.le_of_ble_eq_true rfl, by k_mem, ?_⟩
  clear F₁ N₁ F₂ N₂
  intro h₂ tk₂ I oI C oC D m₂ off ne hoC hm₂ F₂ N₂
  refine Tests_nil ?_
  rw [if_pos rfl]
  refine wpP.of_any ?_
  k_steps
  refine CEnd.intro1 (by assumption) (by assumption) (by assumption) off ⟨Nat.le_of_ble_eq_true rfl, by k_mem, ?_⟩
  clear F₂ N₂
  refine' CFin.assignQ ?e1 ?e2 ?e3 ?_
  case e1 => rfl
  case e2 => rfl
  case e3 => rfl
  intro D h₂ tk₂ F₂ N₂ off
  k_steps
  (with_reducible rename Fr _ _ _ _ => F₁)
  (with_reducible rename News _ _ _ _ => N₁)
  refine wpP.any (eval_SC every_kept (by with_unfolding_all rfl) rfl (by decide) ?srcS)
  refine wpP.of_any ?_
  k_steps
  refine comp_setF every_kept rfl (by decide) rfl (by rfl) F₁ N₁ (by k_mem) (by simp) ?turnS ?finS
  case turnS =>
    intro v hv h₂ tk₂ I oI C oC D oD m₂ off ne hoC hm₂ F₂ N₂
    clear F₁ N₁
    simp only [List.mem_cons, List.not_mem_nil, or_false] at hv
    rcases hv with rfl | rfl
    · refine wpP.of_any ?_
      k_steps
      exact SEnd.intro (by rw [hsb]) (by assumption) (by assumption)
    · refine wpP.of_any ?_
      k_steps
      exact SEnd.intro (by rw [hsc]) (by assumption) (by assumption)
  clear F₁ N₁
  intro D h₂ tk₂ F₂ N₂ off
  k_steps
  (with_reducible rename Fr _ _ _ _ => F₁)
  (with_reducible rename News _ _ _ _ => N₁)
  (with_reducible rename BytesAre _ (splitRaw b _) => hvB)
  (with_reducible rename BytesAre _ (splitRaw c _) => hvC)
  refine wpP.any (Assign_LC every_kept (by rfl) (by with_unfolding_all rfl) rfl (by decide) ?src2)
  refine wpP.of_any ?_
  k_steps
  refine comp_lst2 every_kept rfl (by decide) rfl (by rfl) F₁ N₁ (by k_mem) ?_
  intro h₃ tk₃ I oI C oC D₃ m₂ off₃ ne hoC hm₂ F₃ N₃
  refine Tests_nil ?_
  rw [if_pos rfl]
  refine eval_LC every_kept (by with_unfolding_all rfl) rfl (by decide) ?srcI
  refine wpP.of_any ?_
  k_steps
  refine' comp_lst every_kept rfl (by decide) rfl (by rfl) F₃ N₃ ?km (by have := @split_len b #[47]; rw [hvB.length]; omega) (InnerJ _ (splitRaw b #[47])) ?hkeep (fun _ _ _ h => h.len) ?h0 ?turn ?fin
  case km => k_mem
  case h0 => exact InnerJ.start
  case hkeep => intro i ys nw h; rw [h.1]; k_mem
  case turn =>
    intro i v ys nw hv hJ
    obtain ⟨x, tx, rfl, hx⟩ := hvB.getV hv
    obtain rfl := hJ.1
    have hxz : x.size ≤ 1000 := Nat.le_trans (split_size (List.mem_of_getElem? hx)) hb
    clear F₁ N₁ F₃ N₃
    intro h₄ tk₄ I₄ oI₄ C₄ oC₄ D₄ m₄ off₄ ne₄ hoC₄ hm₄ F₄ N₄
    refine Tests_one ?_
    refine wpP.of_any ?_
    k_steps
    · refine wpP.of_any ?_
      k_steps
      exact CEnd.intro0 (by assumption) (by assumption) off₄ (hJ.keep hx (keepB_yes (by assumption) (by assumption)))
    · exact CEnd.intro0 (by assumption) (by assumption) off₄ (hJ.drop hx (keepB_dot (ne_true_of_eq_false (by assumption))))
    · exact CEnd.intro0 (by assumption) (by assumption) off₄ (hJ.drop hx (keepB_empty (by assumption)))
  intro ys nw hJ
  obtain ⟨rfl, khvB⟩ := hJ.fin hvB
  clear hJ F₁ N₁ F₃ N₃
  refine CFin.eval ?_
  intro D₅ h₅ tk₅ F₅ N₅ off₅
  refine CEnd.intro2 F₅ N₅ off₅ off₃ ⟨Nat.le_of_ble_eq_true rfl, by k_mem, ?_⟩
  clear F₅ N₅ hoC
  intro h₃ tk₃ I oI C oC D₃ m₂ off₃ ne hoC hm₂ F₃ N₃
  refine Tests_nil ?_
  rw [if_pos rfl]
  refine eval_LC every_kept (by with_unfolding_all rfl) rfl (by decide) ?srcIZ
  refine wpP.of_any ?_
  k_steps
  refine' comp_lst every_kept rfl (by decide) rfl (by rfl) F₃ N₃ ?kmZ (by have := @split_len c #[47]; rw [hvC.length]; omega) (InnerJ _ (splitRaw c #[47])) ?hkeepZ (fun _ _ _ h => h.len) ?h0Z ?turnZ ?finZ
  case kmZ => k_mem
  case h0Z => exact InnerJ.start
  case hkeepZ => intro i ys nw h; rw [h.1]; k_mem
  case turnZ =>
    intro i v ys nw hv hJ
    obtain ⟨x, tx, rfl, hx⟩ := hvC.getV hv
    obtain rfl := hJ.1
    have hxz : x.size ≤ 1000 := Nat.le_trans (split_size (List.mem_of_getElem? hx)) hc
    clear F₃ N₃
    intro h₄ tk₄ I₄ oI₄ C₄ oC₄ D₄ m₄ off₄ ne₄ hoC₄ hm₄ F₄ N₄
    refine Tests_one ?_
    refine wpP.of_any ?_
    k_steps
    · refine wpP.of_any ?_
      k_steps
      exact CEnd.intro0 (by assumption) (by assumption) off₄ (hJ.keep hx (keepB_yes (by assumption) (by assumption)))
    · exact CEnd.intro0 (by assumption) (by assumption) off₄ (hJ.drop hx (keepB_dot (ne_true_of_eq_false (by assumption))))
    · exact CEnd.intro0 (by assumption) (by assumption) off₄ (hJ.drop hx (keepB_empty (by assumption)))
  intro ys nw hJ
  obtain ⟨rfl, khvC⟩ := hJ.fin hvC
  clear hJ F₃ N₃
  refine CFin.eval ?_
  intro D₅ h₅ tk₅ F₅ N₅ off₅
  refine CEnd.intro2 F₅ N₅ off₅ off₃ ⟨Nat.le_of_ble_eq_true rfl, by k_mem, ?_⟩
  clear F₅ N₅ hoC
  refine' CFin.assignQ ?e1Z ?e2Z ?e3Z ?_
  case e1Z => rfl
  case e2Z => rfl
  case e3Z => rfl
  intro D₅ h₅ tk₅ F₅ N₅ off₅
  k_steps
  (with_reducible rename Fr _ _ _ _ => F₁)
  (with_reducible rename News _ _ _ _ => N₁)
  delta Stop
  refine' call_min2' rfl ?hrm khvB khvC F₁ N₁ ?mm ?mp ?mq ?_
  case hrm => ktr_units
  case mm => k_mem
  case mp => k_mem
  case mq => k_mem
  intro h₆ r1 v1 n1 x1 hm1 hv1 hx1 F₆ N₆
  dsimp only
  k_steps
  (with_reducible rename Fr _ _ _ _ => F₁)
  (with_reducible rename News _ _ _ _ => N₁)
  delta Stop
  refine' call_max2' rfl ?hrm2 khvB khvC F₁ N₁ ?mm2 ?mp2 ?mq2 ?_
  case hrm2 => ktr_units
  case mm2 => k_mem
  case mp2 => k_mem
  case mq2 => k_mem
  intro h₇ r2 v2 n2 x2 hm2 hv2 hx2 F₇ N₇
  dsimp only
  k_steps
  (with_reducible rename Fr _ _ _ _ => F₁)
  (with_reducible rename News _ _ _ _ => N₁)
  obtain ⟨hOrd, hLcp⟩ := minmax hx1 hx2
  have hz0 := (@common_small b c hb)
  have hpk : KBy.picked #[47] none (some 0) = #[] := by rfl
  have hpk0 : (KBy.picked #[47] none (some 0)).size = 0 := by rw [hpk]; rfl
  have hjs : (Builtin.Bytes.joined #[47] (commonRaw b c)).size ≤ 16777216 := joined_size (by decide) hz0.1 hz0.2
  have hz1 : v1.length ≤ 1000000 := by
    rw [hv1.length, hx1]
    split
    · have := List.length_filter_le keepB (splitRaw c #[47])
      have := @split_len c #[47]
      omega
    · have := List.length_filter_le keepB (splitRaw b #[47])
      have := @split_len b #[47]
      omega
  clear hx1 hx2
  refine' wpP.any (For_enum every_kept rfl rfl rfl rfl rfl N₁ ?hmE ?srcE (LoopJ _ r1 r2 x1 x2) ?hkE ?h0E ?turnE ?finE)
  case hmE => walk_at "mine:mem"
  case srcE =>
    k_steps
    assumption
  case h0E =>
    refine LoopJ.start ?_ ?_ ?_ ?_
    all_goals exact rfl
  case hkE => intro i m' nw hJ; rw [hJ.2.2.2.2.1]; walk_at "mine:mem"
  case turnE =>
    intro i v ti m₈ nw h₈ tk₈ e it oe oit hv hJ off F₈ N₈
    obtain ⟨a1, a2, a3, a4, rfl, hT⟩ := hJ
    obtain ⟨x, tx, rfl, hx⟩ := hv1.getV hv
    obtain ⟨hi1, hxe⟩ := List.getElem?_eq_some_iff.mp hx
    have hi2 := hOrd i hT hi1
    obtain ⟨ty, hy⟩ := hv2.get (List.getElem?_eq_getElem hi2)
    have hy' : v2[((i : Nat) : Int).toNat]? = some (PySem.Value.bytes x2[i] ty) := by simpa using hy
    have hi3 : i ≤ 1000000 := by rw [hv1.length] at hz1; omega
    have hBx : (x.toList != x2[i].toList) = true → BytesAre (v1.take i) (commonRaw b c) := fun q => by
      have := lcp_at x1 x2 i hT hi1 hi2 (by rw [hxe]; exact toList_ne_of q)
      rw [hLcp] at this
      unfold commonRaw
      rw [this]
      exact hv1.take i
    clear F₁ N₁
    refine wpP.of_any ?_
    k_steps
    · refine hret _ _ _ ⟨_, congrArg (PySem.Value.bytes · _) ?_⟩ ?_ ?_
      · rw [hpk, Array.empty_append]
      · assumption
      · walk_at "mine:news"
    · dsimp only
      refine TurnEnd2.intro (by assumption) (by assumption) off ⟨At.skip (by decide) (At.skip (by decide) (by assumption)), At.skip (by decide) (At.skip (by decide) (by assumption)), At.skip (by decide) (At.skip (by decide) (by assumption)), At.skip (by decide) (At.skip (by decide) (by assumption)), rfl, take_same hT hi1 hi2 (by rw [hxe]; exact toList_eq_of (by assumption))⟩
  case finE =>
    intro h₈ tk₈ m₈ nw F₈ N₈ hJ
    obtain ⟨a1, a2, a3, a4, rfl, hT⟩ := hJ
    have hBx : BytesAre v1 (commonRaw b c) := by
      have := lcp_all x1 x2 (by rw [hv1.length] at hT; exact hT)
      rw [hLcp] at this
      unfold commonRaw
      rw [this]
      exact hv1
    clear F₁ N₁
    k_steps
    refine hret _ _ _ ⟨_, congrArg (PySem.Value.bytes · _) ?_⟩ ?_ ?_
    · rw [hpk, Array.empty_append]
    · assumption
    · walk_at "mine:news"
end
theorem rules_C7 : True := by
  k_with_none
  k_with "m:call type:type" => (k_here; (with_reducible show wpAny _ _ (call (Value.type "type") [Value.bytes _ _]) _ _ _); (refine type_bytes ?_))
  k_with "m:call builtin:issubclass" => (k_here; (show wpAny _ _ (call (Value.builtin "issubclass") [Value.type "bytes", Value.ref _]) _ _ _); k_dflt (refine' issub_N (by (k_asm)) (by (k_mem)) ?_))
  k_with "m:mine:news" => first | assumption | (refine cb_drop (by assumption) ?_; intro p hp; repeat (first | exact hp | refine List.mem_cons_of_mem _ ?_))
  k_with "m:mine:size" => first | omega | (simp only [Array.size_append, List.size_toArray, List.length_cons, List.length_nil] at *; omega)
  k_with "m:getMethod bytes" => (k_here; (with_reducible first | refine meth FB.slot_bytes_startswith FB.type_bytes_startswith ?_ | refine meth FB.slot_bytes_endswith FB.type_bytes_endswith ?_ | refine meth slot_rfind type_rfind ?_ | refine meth slot_rstrip type_rstrip ?_ | refine meth slot_split type_split ?_ | refine meth slot_join type_join ?_))
  k_with "m:call builtin:bytes.startswith" => (k_here; (show wpAny _ _ (call (Value.builtin "bytes.startswith") [Value.bytes _ _, Value.bytes _ _]) _ _ _); (refine call_starts ?_))
  k_with "m:call builtin:bytes.endswith" => (k_here; (show wpAny _ _ (call (Value.builtin "bytes.endswith") [Value.bytes _ _, Value.bytes _ _]) _ _ _); (refine call_ends ?_))
  k_with "m:call builtin:bytes.rfind" => (k_here; (show wpAny _ _ (call (Value.builtin "bytes.rfind") [Value.bytes _ _, Value.bytes _ _]) _ _ _); (refine call_rfind ?_))
  k_with "m:call builtin:bytes.rstrip" => (k_here; (show wpAny _ _ (call (Value.builtin "bytes.rstrip") [Value.bytes _ _, Value.bytes _ _]) _ _ _); (refine call_rstrip (by walk_at "mine:size") ?_); intro _ _)
  k_with "m:truthy bytes" => (k_here; (with_reducible show wpAny _ _ (truthy (Value.bytes _ _)) _ _ _); (refine truthy_bytes (by walk_at "mine:size") ?_))
  k_with "m:call builtin:len" => (k_here; (show wpAny _ _ (call (Value.builtin "len") [Value.bytes _ _]) _ _ _); (refine len_bytes (by walk_at "mine:size") ?_))
  k_with "m:subscriptTail" => (k_here; (with_reducible show wpAny _ _ (subscriptTail _ (Expr.Slice _ _ none _) (Value.bytes _ _) (Value.ref _)) _ _ _); (with_reducible rename Fr _ _ _ _ => F'); (with_reducible rename News _ _ _ _ => N'); (refine slice_B (s := ⟨_, _, _, _, _⟩) F' N' (by constructor) (by constructor) (by walk_at "mine:size") ?_); intro _ _ _ F' N' hsz')
  k_with "m:binaryOp Mult bytes int" => (k_here; (with_reducible show wpAny _ _ (binaryOp Operator.Mult (Value.bytes _ _) (Value.int _ _)) _ _ _); (refine mul_one (by omega) (by walk_at "mine:size") ?_); intro _ _)
  k_with "m:binaryOp Add bytes bytes" => (k_here; (with_reducible show wpAny _ _ (binaryOp Operator.Add (Value.bytes _ _) (Value.bytes _ _)) _ _ _); (refine KBy.add_bytes (by walk_at "mine:size") ?_); intro _ _)
  k_with "m:compareOp NotEq bytes bytes" => (k_here; (refine ne_bytes ?_))
  k_with "m:compareOp Eq bytes bytes" => (k_here; (refine eq_bytes ?_))
  k_with "m:exec Try" => (k_here; (refine Try_calm ?_))
  k_with "m:mine:passes_own" => exact fun _ _ h => (show False from h).elim
  k_with "m:inplaceOp Add" => (k_here; (with_reducible show wpAny _ _ (inplaceOp Operator.Add (Value.bytes _ _) (Value.bytes _ _)) _ _ _); (refine iadd_bytes (by walk_at "mine:size") ?_); intro _ _)
  k_with "m:call builtin:bytes.split" => (k_here; (show wpAny _ _ (call (Value.builtin "bytes.split") [Value.bytes _ _, Value.bytes _ _]) _ _ _); k_dflt (refine' call_split1 (by (k_asm)) (by (k_asm)) (by (walk_at "mine:size")) ?_); intro l' h' vs' k' hv' hn' F' N' l1'; (try dsimp only))
  k_with "m:call builtin:len" => (k_here; (show wpAny _ _ (call (Value.builtin "len") [Value.ref _]) _ _ _); k_dflt (refine' len_L (by (k_asm)) (by (k_mem)) (by (omega)) ?_); intro _ _)
  k_with "m:mine:at" => with_reducible (first | exact At.here | assumption | exact At.skip (by decide) (by walk_at "mine:at"))
  k_with "m:eval Name" => (k_here; (with_reducible fail_if_success show wpAny _ _ (eval _ (compEnvC _ _ _ _)) _ _ _); (with_reducible fail_if_success show wpAny _ _ (eval _ (compEnv _ _ _)) _ _ _); (with_reducible fail_if_success show wpAny _ _ (eval _ (envOfC _ _ _ _ _)) _ _ _); (with_reducible rename At _ _ _ => hAt'); k_dflt (refine' ldA (by (k_asm)) (by (walk_at "mine:at")) ?_))
  k_with "m:loadName" => (k_here; (with_reducible fail_if_success show wpAny _ _ (loadName (envOfC _ _ _ _ _) _) _ _ _); (with_reducible rename At _ _ _ => hAt'); k_dflt (refine' ldnA (by (k_asm)) (by (walk_at "mine:at")) ?_))
  k_with "m:subscriptTail" => (k_here; (with_reducible show wpAny _ _ (subscriptTail _ _ (Value.ref _) (Value.int (-1) _)) _ _ _); k_dflt (refine' item_last (by (k_asm)) (by (k_mem)) ?_))
  k_with "m:mine:enterC" => (refine' code_defC (by (k_asm)) (by (k_asm)) (by (k_asm)) (by (k_asm)) (by (k_asm)) (by (exact rfl)) (by (exact rfl)) (by (assumption)) (by (k_is)) (by (k_is)) (by (ktr_room)) (by (exact BindsTo.of_eq rfl)) (by (exact rfl)) (by (decide +kernel)) ?_ (by (exact rfl)) (by (exact rfl)) (by (exact rfl)); k_whole; intro g' L' h' tk' cells' FG' F' N' Y' B' X' T' l1; (have hL9 := Lts.mk' l1; (repeat (replace hL9 := Lts.drop hL9))); (try k_lt l1); k_cells Y'; (try simp only [List.cons_append, List.nil_append] at N'); (try dsimp only); (try k_lift B'); (try k_fold))
  k_with "m:call ref" => (k_here; (with_reducible show wpAny _ _ (call (Value.ref 94) [Value.bytes _ _]) _ _ _); k_dflt (refine' Claim.use (fspath_ok _ _) (by (k_asm)) (by (k_asm)) (by (k_asm)) (by (k_asm)) (by (k_asm)) (by (first | exact rfl | assumption)) (by (ktr_room)) (by (ktr_units)) ?_); intro v h' tk' hv F' N'; subst hv; (try dsimp only); (try k_fold))
  k_with "m:call ref" => (k_here; (with_reducible show wpAny _ _ (call (Value.ref 108) [Value.bytes _ _]) _ _ _); k_dflt (refine' Claim.use (get_sep_ok _ _) (by (k_asm)) (by (k_asm)) (by (k_asm)) (by (k_asm)) (by (k_asm)) (by (first | exact rfl | assumption)) (by (ktr_room)) (by (ktr_units)) ?_); intro v h' tk' hv F' N'; (obtain ⟨t9, hv⟩ := hv); subst hv; (try dsimp only); (try k_fold))
  k_with "m:call ref" => (k_here; (with_reducible show wpAny _ _ (call (Value.ref 122) [Value.bytes _ _]) _ _ _); k_dflt (refine' Claim.use (dirname_ok _ _ (by (walk_at "mine:size"))) (by (k_asm)) (by (k_asm)) (by (k_asm)) (by (k_asm)) (by (k_asm)) (by (first | exact rfl | assumption)) (by (ktr_room)) (by (ktr_units)) ?_); intro v h' tk' hv F' N'; (obtain ⟨t9, hv⟩ := hv); subst hv; (try dsimp only); (try k_fold))
  k_with "m:call ref" => (k_here; (with_reducible show wpAny _ _ (call (Value.ref 127) [Value.ref _]) _ _ _); k_dflt (refine' common_use (by (k_asm)) (by (k_asm)) (by (k_asm)) (by (k_asm)) (by (k_asm)) (by (first | exact rfl | assumption)) (by (walk_at "mine:size")) (by (walk_at "mine:size")) (by (assumption)) (by (assumption)) (by (ktr_room)) (by (ktr_units)) ?_); intro v h' tk' hv F' N'; (obtain ⟨t9, hv⟩ := hv); subst hv; (try dsimp only); (try k_fold))
  k_with "m:mine:k_all" => ((with_reducible rename Lts _ _ => hL8); exact Lts.ne hL8 (by omega))
  k_with "m:mine:mem" => first | k_mem | (with_reducible assumption) | (refine List.mem_cons_of_mem _ ?_; walk_at "mine:mem")
  k_with "m:call builtin:bytes.join" => (k_here; (show wpAny _ _ (call (Value.builtin "bytes.join") [Value.bytes _ _, Value.ref _]) _ _ _); k_dflt (refine' call_joinN (by (k_asm)) (by (walk_at "mine:mem")) (by (with_reducible assumption)) (by (exact Nat.le_of_ble_eq_true rfl)) (by (with_reducible assumption)) ?_); intro _ _; (try dsimp only))
  trivial
theorem common_use {b c : Array UInt8} {t u : Tok} {la : Addr}
  {w : World} {mean : ExcName → Option PySem.Value} {mg mb : Str → Option PySem.Value} {news : List (Addr × Obj)} {dp un : Nat} {gd : Option (List Code)} {cn : Str} {cs : Scope} {a : Addr} {ccd : PySem.Value} {cl : List (Str × Addr)} {outer : List Env} {A₀ : Around} {base h₀ : Heap} {L : Addr} {m : Str → Option PySem.Value} {s : Shared} {Q E : PySem.Value → Shared → Prop}
    (B : Below A₀ base outer h₀) (F : Fr h₀ L s.heap m) (X : (Mine.lawK w.params).In h₀) (N : News h₀ L s.heap ((la, listOf [PySem.Value.bytes b t, PySem.Value.bytes c u].toArray 0) :: news)) (T : Top Mine.hd.view_1_2 (looseW Mine.hd.view_1_2 []) mean mg mb h₀) (hk : cs.kind = .function)
    (hb : b.size ≤ 1000) (hc : c.size ≤ 1000) (hsb : startsRaw b #[47] = false) (hsc : startsRaw c #[47] = false)
    (hd : dp + 5 < recursionLimit) (hu : un + 40 < cLine)
    (h : ∀ (v : PySem.Value) (h' : Heap) (tk' : Nat), (∃ t', v = .bytes (Builtin.Bytes.joined #[47] (commonRaw b c)) t') → Fr h₀ L h' m → News h₀ L h' ((la, listOf [PySem.Value.bytes b t, PySem.Value.bytes c u].toArray 0) :: news) → Q v { s with heap := h', toks := tk' }) :
    wpAny (model PySem.Challenge.rw_pd0128_01.row.prog w) (ktrTop dp un gd cn cs L a ccd cl outer) (call (.ref 127) [.ref la]) Q E s :=
  common_ok b c t u la hb hc hsb hsc w mean mg mb news dp un gd cn cs a ccd cl outer A₀ base h₀ L m s Q E B F X N T hk hd hu h
/-- what _law_shared gives -/
noncomputable def sharedRaw (b c : Array UInt8) : Array UInt8 := Builtin.Bytes.joined #[47] (commonRaw (Builtin.Bytes.joined #[47, 47] (splitRaw b #[47])) (Builtin.Bytes.joined #[47, 46, 47] (splitRaw c #[47])))
set_option maxRecDepth 100000 in
set_option maxHeartbeats 4000000 in
theorem shared_ok (b c : Array UInt8) (t u : Tok) (hb : b.size ≤ 100) (hc : c.size ≤ 100) (hjb : (Builtin.Bytes.joined #[47, 47] (splitRaw b #[47])).size ≤ 1000) (hjc : (Builtin.Bytes.joined #[47, 46, 47] (splitRaw c #[47])).size ≤ 1000)
    (hsb : startsRaw (Builtin.Bytes.joined #[47, 47] (splitRaw b #[47])) #[47] = false) (hsc : startsRaw (Builtin.Bytes.joined #[47, 46, 47] (splitRaw c #[47])) #[47] = false) :
    Claim 7 50 155 [.bytes b t, .bytes c u] (fun v => ∃ t', v = .bytes (sharedRaw b c) t') := by
  have hzb : (∀ x ∈ splitRaw b #[47], x.size ≤ 1000) ∧ (splitRaw b #[47]).length ≤ 1010 := ⟨fun x hx => Nat.le_trans (split_size hx) (by omega), by have := @split_len b #[47]; omega⟩
  have hzc : (∀ x ∈ splitRaw c #[47], x.size ≤ 1000) ∧ (splitRaw c #[47]).length ≤ 1010 := ⟨fun x hx => Nat.le_trans (split_size hx) (by omega), by have := @split_len c #[47]; omega⟩
  unfold Claim
  k_fill
  intro w mean mg mb news dp un gd cn cs a ccd cl outer A₀ base h₀ L m s Q E B F X N T hk hd hu hret
  refine wpAny_call ?_
  k_dflt cell_enter
  k_steps
  all_goals (refine hret _ _ _ ⟨_, rfl⟩ ?f ?n; (case f => assumption); (case n => walk_at "mine:news"))
theorem rules_C8 : True := by
  k_with_none
  k_with "m:call type:type" => (k_here; (with_reducible show wpAny _ _ (call (Value.type "type") [Value.bytes _ _]) _ _ _); (refine type_bytes ?_))
  k_with "m:call builtin:issubclass" => (k_here; (show wpAny _ _ (call (Value.builtin "issubclass") [Value.type "bytes", Value.ref _]) _ _ _); k_dflt (refine' issub_N (by (k_asm)) (by (k_mem)) ?_))
  k_with "m:mine:news" => first | assumption | (refine cb_drop (by assumption) ?_; intro p hp; repeat (first | exact hp | refine List.mem_cons_of_mem _ ?_))
  k_with "m:mine:size" => first | omega | (simp only [Array.size_append, List.size_toArray, List.length_cons, List.length_nil] at *; omega)
  k_with "m:getMethod bytes" => (k_here; (with_reducible first | refine meth FB.slot_bytes_startswith FB.type_bytes_startswith ?_ | refine meth FB.slot_bytes_endswith FB.type_bytes_endswith ?_ | refine meth slot_rfind type_rfind ?_ | refine meth slot_rstrip type_rstrip ?_ | refine meth slot_split type_split ?_ | refine meth slot_join type_join ?_))
  k_with "m:call builtin:bytes.startswith" => (k_here; (show wpAny _ _ (call (Value.builtin "bytes.startswith") [Value.bytes _ _, Value.bytes _ _]) _ _ _); (refine call_starts ?_))
  k_with "m:call builtin:bytes.endswith" => (k_here; (show wpAny _ _ (call (Value.builtin "bytes.endswith") [Value.bytes _ _, Value.bytes _ _]) _ _ _); (refine call_ends ?_))
  k_with "m:call builtin:bytes.rfind" => (k_here; (show wpAny _ _ (call (Value.builtin "bytes.rfind") [Value.bytes _ _, Value.bytes _ _]) _ _ _); (refine call_rfind ?_))
  k_with "m:call builtin:bytes.rstrip" => (k_here; (show wpAny _ _ (call (Value.builtin "bytes.rstrip") [Value.bytes _ _, Value.bytes _ _]) _ _ _); (refine call_rstrip (by walk_at "mine:size") ?_); intro _ _)
  k_with "m:truthy bytes" => (k_here; (with_reducible show wpAny _ _ (truthy (Value.bytes _ _)) _ _ _); (refine truthy_bytes (by walk_at "mine:size") ?_))
  k_with "m:call builtin:len" => (k_here; (show wpAny _ _ (call (Value.builtin "len") [Value.bytes _ _]) _ _ _); (refine len_bytes (by walk_at "mine:size") ?_))
  k_with "m:subscriptTail" => (k_here; (with_reducible show wpAny _ _ (subscriptTail _ (Expr.Slice _ _ none _) (Value.bytes _ _) (Value.ref _)) _ _ _); (with_reducible rename Fr _ _ _ _ => F'); (with_reducible rename News _ _ _ _ => N'); (refine slice_B (s := ⟨_, _, _, _, _⟩) F' N' (by constructor) (by constructor) (by walk_at "mine:size") ?_); intro _ _ _ F' N' hsz')
  k_with "m:binaryOp Mult bytes int" => (k_here; (with_reducible show wpAny _ _ (binaryOp Operator.Mult (Value.bytes _ _) (Value.int _ _)) _ _ _); (refine mul_one (by omega) (by walk_at "mine:size") ?_); intro _ _)
  k_with "m:binaryOp Add bytes bytes" => (k_here; (with_reducible show wpAny _ _ (binaryOp Operator.Add (Value.bytes _ _) (Value.bytes _ _)) _ _ _); (refine KBy.add_bytes (by walk_at "mine:size") ?_); intro _ _)
  k_with "m:compareOp NotEq bytes bytes" => (k_here; (refine ne_bytes ?_))
  k_with "m:compareOp Eq bytes bytes" => (k_here; (refine eq_bytes ?_))
  k_with "m:exec Try" => (k_here; (refine Try_calm ?_))
  k_with "m:mine:passes_own" => exact fun _ _ h => (show False from h).elim
  k_with "m:inplaceOp Add" => (k_here; (with_reducible show wpAny _ _ (inplaceOp Operator.Add (Value.bytes _ _) (Value.bytes _ _)) _ _ _); (refine iadd_bytes (by walk_at "mine:size") ?_); intro _ _)
  k_with "m:call builtin:bytes.split" => (k_here; (show wpAny _ _ (call (Value.builtin "bytes.split") [Value.bytes _ _, Value.bytes _ _]) _ _ _); k_dflt (refine' call_split1 (by (k_asm)) (by (k_asm)) (by (walk_at "mine:size")) ?_); intro l' h' vs' k' hv' hn' F' N' l1'; (try dsimp only))
  k_with "m:call builtin:len" => (k_here; (show wpAny _ _ (call (Value.builtin "len") [Value.ref _]) _ _ _); k_dflt (refine' len_L (by (k_asm)) (by (k_mem)) (by (omega)) ?_); intro _ _)
  k_with "m:mine:at" => with_reducible (first | exact At.here | assumption | exact At.skip (by decide) (by walk_at "mine:at"))
  k_with "m:eval Name" => (k_here; (with_reducible fail_if_success show wpAny _ _ (eval _ (compEnvC _ _ _ _)) _ _ _); (with_reducible fail_if_success show wpAny _ _ (eval _ (compEnv _ _ _)) _ _ _); (with_reducible fail_if_success show wpAny _ _ (eval _ (envOfC _ _ _ _ _)) _ _ _); (with_reducible rename At _ _ _ => hAt'); k_dflt (refine' ldA (by (k_asm)) (by (walk_at "mine:at")) ?_))
  k_with "m:loadName" => (k_here; (with_reducible fail_if_success show wpAny _ _ (loadName (envOfC _ _ _ _ _) _) _ _ _); (with_reducible rename At _ _ _ => hAt'); k_dflt (refine' ldnA (by (k_asm)) (by (walk_at "mine:at")) ?_))
  k_with "m:subscriptTail" => (k_here; (with_reducible show wpAny _ _ (subscriptTail _ _ (Value.ref _) (Value.int (-1) _)) _ _ _); k_dflt (refine' item_last (by (k_asm)) (by (k_mem)) ?_))
  k_with "m:mine:enterC" => (refine' code_defC (by (k_asm)) (by (k_asm)) (by (k_asm)) (by (k_asm)) (by (k_asm)) (by (exact rfl)) (by (exact rfl)) (by (assumption)) (by (k_is)) (by (k_is)) (by (ktr_room)) (by (exact BindsTo.of_eq rfl)) (by (exact rfl)) (by (decide +kernel)) ?_ (by (exact rfl)) (by (exact rfl)) (by (exact rfl)); k_whole; intro g' L' h' tk' cells' FG' F' N' Y' B' X' T' l1; (have hL9 := Lts.mk' l1; (repeat (replace hL9 := Lts.drop hL9))); (try k_lt l1); k_cells Y'; (try simp only [List.cons_append, List.nil_append] at N'); (try dsimp only); (try k_lift B'); (try k_fold))
  k_with "m:call ref" => (k_here; (with_reducible show wpAny _ _ (call (Value.ref 94) [Value.bytes _ _]) _ _ _); k_dflt (refine' Claim.use (fspath_ok _ _) (by (k_asm)) (by (k_asm)) (by (k_asm)) (by (k_asm)) (by (k_asm)) (by (first | exact rfl | assumption)) (by (ktr_room)) (by (ktr_units)) ?_); intro v h' tk' hv F' N'; subst hv; (try dsimp only); (try k_fold))
  k_with "m:call ref" => (k_here; (with_reducible show wpAny _ _ (call (Value.ref 108) [Value.bytes _ _]) _ _ _); k_dflt (refine' Claim.use (get_sep_ok _ _) (by (k_asm)) (by (k_asm)) (by (k_asm)) (by (k_asm)) (by (k_asm)) (by (first | exact rfl | assumption)) (by (ktr_room)) (by (ktr_units)) ?_); intro v h' tk' hv F' N'; (obtain ⟨t9, hv⟩ := hv); subst hv; (try dsimp only); (try k_fold))
  k_with "m:call ref" => (k_here; (with_reducible show wpAny _ _ (call (Value.ref 122) [Value.bytes _ _]) _ _ _); k_dflt (refine' Claim.use (dirname_ok _ _ (by (walk_at "mine:size"))) (by (k_asm)) (by (k_asm)) (by (k_asm)) (by (k_asm)) (by (k_asm)) (by (first | exact rfl | assumption)) (by (ktr_room)) (by (ktr_units)) ?_); intro v h' tk' hv F' N'; (obtain ⟨t9, hv⟩ := hv); subst hv; (try dsimp only); (try k_fold))
  k_with "m:call ref" => (k_here; (with_reducible show wpAny _ _ (call (Value.ref 127) [Value.ref _]) _ _ _); k_dflt (refine' common_use (by (k_asm)) (by (k_asm)) (by (k_asm)) (by (k_asm)) (by (k_asm)) (by (first | exact rfl | assumption)) (by (walk_at "mine:size")) (by (walk_at "mine:size")) (by (assumption)) (by (assumption)) (by (ktr_room)) (by (ktr_units)) ?_); intro v h' tk' hv F' N'; (obtain ⟨t9, hv⟩ := hv); subst hv; (try dsimp only); (try k_fold))
  k_with "m:mine:k_all" => ((with_reducible rename Lts _ _ => hL8); exact Lts.ne hL8 (by omega))
  k_with "m:mine:enterP" => (refine' code_defP clean_kept (by (k_asm)) (by (k_asm)) (by (k_asm)) (by (k_asm)) (by (k_asm)) (by (exact rfl)) (by (exact rfl)) (by (assumption)) (by (k_is)) (by (k_is)) (by (ktr_room)) (by (exact BindsTo.of_eq rfl)) (by (exact rfl)) (by (decide +kernel)) ?_ (by (exact rfl)) (by (exact rfl)) (by (exact rfl)); k_whole; intro g' L' h' tk' cells' FG' F' N' Y' B' X' T' l1; (have hL9 := Lts.mk' l1; (repeat (replace hL9 := Lts.drop hL9))); (try k_lt l1); (cases Y'); (try simp only [List.cons_append, List.nil_append] at N'); (try dsimp only); (try k_lift B'); (try k_fold))
  k_with "m:eval Name" => (k_here; (with_reducible fail_if_success show wpAny _ _ (eval _ (compEnvC _ _ _ _)) _ _ _); (with_reducible fail_if_success show wpAny _ _ (eval _ (compEnv _ _ _)) _ _ _); (with_reducible rename At _ _ _ => hAt'); k_dflt (refine' ldX (by (k_asm)) (by (walk_at "mine:at")) ?_ (by (rfl)) (by (rfl))))
  k_with "m:setItem ref int" => (k_here; (with_reducible show wpAny _ _ (setItem (Value.ref _) (Value.int _ _) (Value.int _ _)) _ _ _); k_dflt (refine' setItem_baU (by (k_asm)) (by (k_asm)) (by (k_updF)) (by (omega)) (by (walk_at "mine:size")) (by (walk_at "mine:size")) (by (omega)) (by (walk_at "mine:octet")) ?_); intro h' F' N'; (try dsimp only at N' ⊢))
  k_with "m:mine:octet" => exact Int.ofNat_lt.mpr (UInt8.toNat_lt _)
  k_with "m:subscriptTail" => (k_here; (with_reducible show wpAny _ _ (subscriptTail _ _ (Value.bytes _ _) (Value.int _ _)) _ _ _); k_dflt (refine' item_By (by (omega)) (by (omega)) (by (omega)) ?_); intro _ _; (try dsimp only))
  k_with "m:call type:bytes" => (k_here; (show wpAny _ _ (call (Value.type "bytes") [Value.ref _]) _ _ _); k_dflt (refine' call_bytes_baL (by (k_asm)) (by (k_mem)) (by (assumption)) ?_); intro _ _; (try dsimp only))
  k_with "m:exec For Name Call cons nil" => refine Stop.go ?_
  trivial
/-- a call's contract over contexts that hold no bytearray -/
noncomputable def ClaimP (D U : Nat) (f : Addr) (vs : List PySem.Value) (R : PySem.Value → Prop) : Prop :=
  ∀ (w : World) (mean : ExcName → Option PySem.Value) (mg mb : Str → Option PySem.Value) (news : List (Addr × Obj)) (dp un : Nat) (gd : Option (List Code)) (cn : Str) (cs : Scope) (a : Addr) (ccd : PySem.Value) (cl : List (Str × Addr)) (outer : List Env) (A₀ : Around) (base h₀ : Heap) (L : Addr) (m : Str → Option PySem.Value) (s : Shared) (Q E : PySem.Value → Shared → Prop),
    Below A₀ base outer h₀ → Fr h₀ L s.heap m → (Mine.lawK w.params).In h₀ → News h₀ L s.heap news → Top Mine.hd.view_1_2 (looseW Mine.hd.view_1_2 []) mean mg mb h₀ → cs.kind = .function →
    dp + D < recursionLimit → un + U < cLine →
    (∀ (v : PySem.Value) (h' : Heap) (tk' : Nat), R v → Fr h₀ L h' m → News h₀ L h' news → Q v { s with heap := h', toks := tk' }) →
    wpP Clean (model PySem.Challenge.rw_pd0128_01.row.prog w) (ktrTop dp un gd cn cs L a ccd cl outer) (call (.ref f) vs) Q E s
theorem ClaimP.use {D U : Nat} {f : Addr} {vs : List PySem.Value} {R : PySem.Value → Prop} (C : ClaimP D U f vs R) {w : World} {mean : ExcName → Option PySem.Value} {mg mb : Str → Option PySem.Value} {news : List (Addr × Obj)} {dp un : Nat} {gd : Option (List Code)} {cn : Str} {cs : Scope} {a : Addr} {ccd : PySem.Value} {cl : List (Str × Addr)} {outer : List Env} {A₀ : Around} {base h₀ : Heap} {L : Addr} {m : Str → Option PySem.Value} {s : Shared} {Q E : PySem.Value → Shared → Prop}
    (B : Below A₀ base outer h₀) (F : Fr h₀ L s.heap m) (X : (Mine.lawK w.params).In h₀) (N : News h₀ L s.heap news) (T : Top Mine.hd.view_1_2 (looseW Mine.hd.view_1_2 []) mean mg mb h₀) (hk : cs.kind = .function)
    (hd : dp + D < recursionLimit) (hu : un + U < cLine)
    (h : ∀ (v : PySem.Value) (h' : Heap) (tk' : Nat), R v → Fr h₀ L h' m → News h₀ L h' news → Q v { s with heap := h', toks := tk' }) :
    wpP Clean (model PySem.Challenge.rw_pd0128_01.row.prog w) (ktrTop dp un gd cn cs L a ccd cl outer) (call (.ref f) vs) Q E s :=
  C w mean mg mb news dp un gd cn cs a ccd cl outer A₀ base h₀ L m s Q E B F X N T hk hd hu h
section
variable {prog : Program} {w : World} {A : Around} {E : PySem.Value → Shared → Prop} {s : Shared} {h₀ : Heap} {L : Addr} {m : Str → Option PySem.Value} {news : List (Addr × Obj)}
theorem item_By {value slice : PySem.Expr} {b : Array UInt8} {t : Tok} {k : Int} {u : Tok} {Q : PySem.Value → Shared → Prop} (h0 : 0 ≤ k) (h1 : k < b.size) (hz : b.size ≤ 1000000) (h : ∀ t' k', Q (.int ((b.getD k.toNat 0).toNat : Int) t') { s with toks := k' })
    (hs : subscripted slice false (.bytes b t) (.int k u) = operate [.bytes b t, .int k u] (getItem (.bytes b t) (.int k u)) := by with_unfolding_all rfl) :
    wpAny (model prog w) A (subscriptTail value slice (.bytes b t) (.int k u)) Q E s := by
  refine tail_any (typeIs_bytes s b t) FB.slot_bytes_getitem.lookup ?_ hs
  have e : b = b.toList.toArray := by simp
  have := getItem_bytes (prog := prog) (w := w) (A := A) (E := E) (s := s) (l := b.toList) (t := t) (i := k) (u := u) (Q := Q) (by simp; omega) h0 (by simpa using h1) (by
    have q := h s.toks (s.toks + 1)
    have e2 : b.toList.getD k.toNat 0 = b.getD k.toNat 0 := by simp [List.getD_eq_getElem?_getD, Array.getD_eq_getD_getElem?]
    rw [e2]; exact q)
  rwa [← e] at this
theorem call_bytes_baL {B : Addr} {b : Array UInt8} {Q : PySem.Value → Shared → Prop} (N : News h₀ L s.heap news) (hm : (B, baObj b) ∈ news) (hz : b.size ≤ 1000000)
    (h : ∀ t k, Q (.bytes b t) { s with toks := k }) : wpAny (model prog w) A (call (.type "bytes") [.ref B]) Q E s := call_bytes_ba (N _ hm).1 hz h
theorem u8_back (x : UInt8) : x.toNat.toUInt8 = x := by simp
theorem setItem_baU {B : Addr} {b : Array UInt8} {g : Obj → List (Addr × Obj)} {k x : Int} {t u : Tok} {Q : Unit → Shared → Prop} (F : Fr h₀ L s.heap m) (N : News h₀ L s.heap news) (U : UpdF B (baObj b) news g) (h0 : 0 ≤ k) (h1 : k < b.size) (hz : b.size ≤ 1000000) (hx0 : 0 ≤ x) (hx : x < 256)
    (h : ∀ h', Fr h₀ L h' m → News h₀ L h' (g (baObj (b.setIfInBounds k.toNat x.toNat.toUInt8))) → Q () { s with heap := h' }) :
    wpAny (model prog w) A (setItem (.ref B) (.int k t) (.int x u)) Q E s := by
  obtain ⟨own, rest, rfl, hg, a1, a2⟩ := U.split
  have hmem := N (B, baObj b) (List.mem_append_right _ (.head _))
  refine setItem_ba hmem.1 h0 h1 hz hx0 hx fun h' hs ho' => h h' (F.change hs hmem.2.1 hmem.2.2) (hg _ ▸ N.setAt a1 a2 hs ho')
end
section
theorem small_ok {a b c : Int} (ha : -1000000 ≤ a ∧ a ≤ 1000000) (hb : -1000000 ≤ b ∧ b ≤ 1000000) (hc : -1000000 ≤ c ∧ c ≤ 1000000) (_h : True) : Builtin.Range.small a b c = true := by
  have hr : -1 ≤ Builtin.Range.rangeSize a b c ∧ Builtin.Range.rangeSize a b c ≤ 4000000 := by
    unfold Builtin.Range.rangeSize
    split
    · split
      · rename_i h1 h2
        have h3 : 0 ≤ (b - a - 1) / c := Int.ediv_nonneg (by omega) (by omega)
        have h4 : (b - a - 1) / c ≤ b - a - 1 := Int.ediv_le_self _ (by omega)
        omega
      · omega
    · split
      · rename_i h1 h2
        by_cases hc0 : c = 0
        · subst hc0; simp
        have h3 : 0 ≤ (a - b - 1) / (-c) := Int.ediv_nonneg (by omega) (by omega)
        have h4 : (a - b - 1) / (-c) ≤ a - b - 1 := Int.ediv_le_self _ (by omega)
        omega
      · omega
  unfold Builtin.Range.small
  simp only [Builtin.Range.rangeFitsLong, Bool.and_eq_true, decide_eq_true_eq]
  generalize Builtin.Range.rangeSize a b c = r at hr
  refine ⟨⟨⟨⟨⟨by omega, by omega⟩, by omega, by omega⟩, by omega, by omega⟩, by omega, by omega⟩, ?_⟩
  rw [Bool.or_eq_true]
  right
  split
  · rw [Bool.and_eq_true, decide_eq_true_eq, decide_eq_true_eq]; omega
  · rw [Bool.and_eq_true, decide_eq_true_eq, decide_eq_true_eq]; omega
/-- between the turns of the inner loop -/
noncomputable def SwapJ (nw : Obj → List (Addr × Obj)) (B : Addr) (b : Array UInt8) (t u v : Tok) (j : Nat) (m : Str → Option PySem.Value) (nw' : List (Addr × Obj)) : Prop :=
  At m (Str.ofString "swapped_data") (.ref B) ∧ At m (Str.ofString "data") (.bytes b t) ∧ At m (Str.ofString "width") (.int (b.size : Int) u) ∧ At m (Str.ofString "i") (.int 0 v) ∧ nw' = nw (baObj (revPart b j))
set_option maxRecDepth 100000 in
set_option maxHeartbeats 1000000 in
theorem swap_ok1 (b : Array UInt8) (t u : Tok) (hb : b.size ≤ 1000) (hb0 : 0 < b.size) : ClaimP 1 30 134 [.bytes b t, .int (b.size : Int) u] (fun v => ∃ t', v = .bytes b.reverse t') := by
  unfold ClaimP
  k_fill
  intro w mean mg mb news dp un gd cn cs a ccd cl outer A₀ base h₀ L m s Q E B F X N T hk hd hu hret
  refine wpP_call clean_kept ?_
  k_dflt walk_at "mine:enterP"
  refine execsP (AssignP (CallP ?_))
  k_steps
  refine callWith_typeP (splConsP ?_)
  refine wpP.of_any ?_
  k_steps
  refine splNilP ?_
  (with_reducible rename Fr _ _ _ _ => F₁)
  (with_reducible rename News _ _ _ _ => N₁)
  refine call_ba_K F₁ N₁ (by omega) ?_
  clear F₁ N₁
  intro h₁ B₁ F₁ N₁ lB
  k_steps
  refine wpP.of_any ?_
  k_steps
  (with_reducible rename Fr _ _ _ _ => F₁)
  (with_reducible rename News _ _ _ _ => N₁)
  have hsm : Builtin.Range.small 0 (b.size : Int) (b.size : Int) = true := small_ok (by omega) (by omega) (by omega) trivial
  have hrs : Builtin.Range.rangeSize 0 (b.size : Int) (b.size : Int) = ((1 : Nat) : Int) := by
    unfold Builtin.Range.rangeSize
    rw [if_pos (by omega), if_pos (by omega)]
    have : ((b.size : Int) - 0 - 1) / (b.size : Int) = 0 := Int.ediv_eq_zero_of_lt (by omega) (by omega)
    rw [this]; rfl
  have hsm1 : Builtin.Range.small 0 (b.size : Int) 1 = true := small_ok (by omega) (by omega) (by omega) trivial
  have hrs1 : Builtin.Range.rangeSize 0 (b.size : Int) 1 = ((b.size : Nat) : Int) := by
    unfold Builtin.Range.rangeSize
    rw [if_pos (by omega), if_pos (by omega)]
    omega
  have hBs : ∀ j, (revPart b j).size = b.size := revPart_size b
  have FN := And.intro F₁ N₁
  refine wpP.any (For_rng (a := 0) (b := (b.size : Int)) (c := (b.size : Int)) (n := 1) every_kept rfl hsm hrs F₁ N₁ ?hx (fun i m' nw => At m' (Str.ofString "swapped_data") (.ref B₁) ∧ At m' (Str.ofString "data") (.bytes b t) ∧ At m' (Str.ofString "width") (.int (b.size : Int) u) ∧ nw = (B₁, baObj (revPart b (i * b.size))) :: news) ?h0 ?turn ?fin)
  case hx =>
    k_steps
    exact RngAt.intro (by assumption) FN.1 FN.2 (by assumption)
  case h0 =>
    refine ⟨?_, ?_, ?_, ?_⟩
    · exact rfl
    · exact rfl
    · exact rfl
    · rw [Nat.zero_mul]; rfl
  case turn =>
    intro i ti m₂ nw₂ h₂ tk₂ I oI hi hJ off F₂ N₂
    obtain ⟨a1, a2, a3, rfl⟩ := hJ
    obtain rfl : i = 0 := by omega
    clear FN F₁ N₁
    have e0 : (0 + ((0 : Nat) : Int) * (b.size : Int)) = 0 := by simp
    rw [e0]
    rw [Nat.zero_mul] at N₂ off
    have hBI : @Ne Nat B₁ I := off _ List.mem_cons_self
    refine wpAny_assign_Name ?_
    k_steps
    refine wpP.of_any ?_
    k_steps
    (with_reducible rename Fr _ _ _ _ => F₁)
    (with_reducible rename News _ _ _ _ => N₁)
    have FN := And.intro F₁ N₁
    refine wpP.any (For_rng (a := 0) (b := (b.size : Int)) (c := 1) (n := b.size) every_kept rfl hsm1 hrs1 F₁ N₁ ?hx2 (SwapJ (fun o => (I, oI) :: (B₁, o) :: news) B₁ b t u ti) ?h02 ?turn2 ?fin2)
    case hx2 =>
      k_steps
      exact RngAt.intro (by assumption) FN.1 FN.2 (by assumption)
    case h02 => exact ⟨At.skip (by decide) (by assumption), At.skip (by decide) (by assumption), At.skip (by decide) (by assumption), by exact At.here, rfl⟩
    case turn2 =>
      intro j tj m₃ nw₃ h₃ tk₃ I₃ oI₃ hj hJ₃ off₃ F₃ N₃
      obtain ⟨c1, c2, c3, c4, rfl⟩ := hJ₃
      have hBj := hBs j
      have hIB : @Ne Nat I₃ B₁ := Ne.symm (off₃ _ (List.mem_cons_of_mem _ List.mem_cons_self))
      have hIB2 : @Ne Nat I B₁ := Ne.symm hBI
      have ej : (0 + (j : Int) * 1) = (j : Int) := by omega
      rw [ej]
      clear FN F₁ N₁
      refine wpAny_assign_Name ?_
      k_steps
      refine wpP.of_any ?_
      k_steps
      (with_reducible rename Fr _ _ _ _ => F₅)
      (with_reducible rename News _ _ _ _ => N₅)
      have e : (revPart b j).setIfInBounds (0 + (b.size : Int) - 1 - (j : Int)).toNat (((b.getD (0 + (j : Int)).toNat 0).toNat : Int).toNat.toUInt8) = revPart b (j + 1) := by
        rw [revPart]
        have e1 : (0 + (b.size : Int) - 1 - (j : Int)).toNat = b.size - 1 - j := by omega
        have e2 : (0 + (j : Int)).toNat = j := by omega
        rw [e1, e2, Int.toNat_natCast, u8_back]
      rw [e] at N₅
      dsimp only
      refine TurnEnd.intro ((I, oI) :: (B₁, baObj (revPart b (j + 1))) :: news) F₅ N₅ (fun p hp => hp) (fun p hp => ?_) ⟨At.skip (by decide) (by assumption), At.skip (by decide) (by assumption), At.skip (by decide) (by assumption), At.skip (by decide) (by assumption), rfl⟩
      rcases List.mem_cons.mp hp with rfl | hp
      · exact off₃ _ List.mem_cons_self
      · rcases List.mem_cons.mp hp with rfl | hp
        · exact Ne.symm hIB
        · exact off₃ p (List.mem_cons_of_mem _ (List.mem_cons_of_mem _ hp))
    case fin2 =>
      intro h₃ tk₃ m₃ nw₃ F₃ N₃ hJ₃
      obtain ⟨c1, c2, c3, c4, rfl⟩ := hJ₃
      clear FN F₁ N₁
      k_steps
      dsimp only
      refine TurnEnd.intro ((B₁, baObj (revPart b b.size)) :: news) F₃ N₃ (fun p hp => hp) (fun p hp => ?_) ⟨c1, c2, c3, by rw [Nat.zero_add, Nat.one_mul]⟩
      rcases List.mem_cons.mp hp with rfl | hp
      · exact hBI
      · exact off p (List.mem_cons_of_mem _ hp)
  case fin =>
    intro h₃ tk₃ m₃ nw₃ F₃ N₃ hJ₃
    obtain ⟨c1, c2, c3, rfl⟩ := hJ₃
    rw [Nat.one_mul, revPart_all] at N₃
    clear FN F₁ N₁
    have hrz : b.reverse.size ≤ 1000000 := by rw [Array.size_reverse]; omega
    k_steps
    all_goals (refine hret _ _ _ ⟨_, rfl⟩ ?f ?n; (case f => assumption); (case n => walk_at "mine:news"))
set_option maxRecDepth 100000 in
set_option maxHeartbeats 1000000 in
theorem swap_ok0 (t u : Tok) : ClaimP 1 30 134 [.bytes #[] t, .int 1 u] (fun v => ∃ t', v = .bytes #[] t') := by
  have hb : (#[] : Array UInt8).size = 0 := rfl
  unfold ClaimP
  k_fill
  intro w mean mg mb news dp un gd cn cs a ccd cl outer A₀ base h₀ L m s Q E B F X N T hk hd hu hret
  refine wpP_call clean_kept ?_
  k_dflt walk_at "mine:enterP"
  refine execsP (AssignP (CallP ?_))
  k_steps
  refine callWith_typeP (splConsP ?_)
  refine wpP.of_any ?_
  k_steps
  refine splNilP ?_
  (with_reducible rename Fr _ _ _ _ => F₁)
  (with_reducible rename News _ _ _ _ => N₁)
  refine call_ba_K (n := 0) F₁ N₁ (by omega) ?_
  clear F₁ N₁
  intro h₁ B₁ F₁ N₁ lB
  k_steps
  refine wpP.of_any ?_
  k_steps
  (with_reducible rename Fr _ _ _ _ => F₁)
  (with_reducible rename News _ _ _ _ => N₁)
  have FN := And.intro F₁ N₁
  refine wpP.any (For_rng (a := 0) (b := 0) (c := 1) (n := 0) every_kept rfl (by decide) (by decide) F₁ N₁ ?hx (fun i m' nw => At m' (Str.ofString "swapped_data") (.ref B₁) ∧ nw = (B₁, baObj #[]) :: news) ?h0 ?turn ?fin)
  case hx =>
    k_steps
    exact RngAt.intro (by assumption) FN.1 FN.2 (by assumption)
  case h0 => exact ⟨rfl, rfl⟩
  case turn => intro i ti m₂ nw₂ h₂ tk₂ I oI hi; exact absurd hi (Nat.not_lt_zero _)
  case fin =>
    intro h₃ tk₃ m₃ nw₃ F₃ N₃ hJ₃
    obtain ⟨c1, rfl⟩ := hJ₃
    clear FN F₁ N₁
    have hrz : (#[] : Array UInt8).size ≤ 1000000 := by rw [hb]; omega
    k_steps
    all_goals (refine hret _ _ _ ⟨_, rfl⟩ ?f ?n; (case f => assumption); (case n => walk_at "mine:news"))
end
theorem rules_C9 : True := by
  k_with_none
  k_with "m:call type:type" => (k_here; (with_reducible show wpAny _ _ (call (Value.type "type") [Value.bytes _ _]) _ _ _); (refine type_bytes ?_))
  k_with "m:call builtin:issubclass" => (k_here; (show wpAny _ _ (call (Value.builtin "issubclass") [Value.type "bytes", Value.ref _]) _ _ _); k_dflt (refine' issub_N (by (k_asm)) (by (k_mem)) ?_))
  k_with "m:mine:news" => first | assumption | (refine cb_drop (by assumption) ?_; intro p hp; repeat (first | exact hp | refine List.mem_cons_of_mem _ ?_))
  k_with "m:mine:size" => first | omega | (simp only [Array.size_append, List.size_toArray, List.length_cons, List.length_nil] at *; omega)
  k_with "m:getMethod bytes" => (k_here; (with_reducible first | refine meth FB.slot_bytes_startswith FB.type_bytes_startswith ?_ | refine meth FB.slot_bytes_endswith FB.type_bytes_endswith ?_ | refine meth slot_rfind type_rfind ?_ | refine meth slot_rstrip type_rstrip ?_ | refine meth slot_split type_split ?_ | refine meth slot_join type_join ?_))
  k_with "m:call builtin:bytes.startswith" => (k_here; (show wpAny _ _ (call (Value.builtin "bytes.startswith") [Value.bytes _ _, Value.bytes _ _]) _ _ _); (refine call_starts ?_))
  k_with "m:call builtin:bytes.endswith" => (k_here; (show wpAny _ _ (call (Value.builtin "bytes.endswith") [Value.bytes _ _, Value.bytes _ _]) _ _ _); (refine call_ends ?_))
  k_with "m:call builtin:bytes.rfind" => (k_here; (show wpAny _ _ (call (Value.builtin "bytes.rfind") [Value.bytes _ _, Value.bytes _ _]) _ _ _); (refine call_rfind ?_))
  k_with "m:call builtin:bytes.rstrip" => (k_here; (show wpAny _ _ (call (Value.builtin "bytes.rstrip") [Value.bytes _ _, Value.bytes _ _]) _ _ _); (refine call_rstrip (by walk_at "mine:size") ?_); intro _ _)
  k_with "m:truthy bytes" => (k_here; (with_reducible show wpAny _ _ (truthy (Value.bytes _ _)) _ _ _); (refine truthy_bytes (by walk_at "mine:size") ?_))
  k_with "m:call builtin:len" => (k_here; (show wpAny _ _ (call (Value.builtin "len") [Value.bytes _ _]) _ _ _); (refine len_bytes (by walk_at "mine:size") ?_))
  k_with "m:subscriptTail" => (k_here; (with_reducible show wpAny _ _ (subscriptTail _ (Expr.Slice _ _ none _) (Value.bytes _ _) (Value.ref _)) _ _ _); (with_reducible rename Fr _ _ _ _ => F'); (with_reducible rename News _ _ _ _ => N'); (refine slice_B (s := ⟨_, _, _, _, _⟩) F' N' (by constructor) (by constructor) (by walk_at "mine:size") ?_); intro _ _ _ F' N' hsz')
  k_with "m:binaryOp Mult bytes int" => (k_here; (with_reducible show wpAny _ _ (binaryOp Operator.Mult (Value.bytes _ _) (Value.int _ _)) _ _ _); (refine mul_one (by omega) (by walk_at "mine:size") ?_); intro _ _)
  k_with "m:binaryOp Add bytes bytes" => (k_here; (with_reducible show wpAny _ _ (binaryOp Operator.Add (Value.bytes _ _) (Value.bytes _ _)) _ _ _); (refine KBy.add_bytes (by walk_at "mine:size") ?_); intro _ _)
  k_with "m:compareOp NotEq bytes bytes" => (k_here; (refine ne_bytes ?_))
  k_with "m:compareOp Eq bytes bytes" => (k_here; (refine eq_bytes ?_))
  k_with "m:exec Try" => (k_here; (refine Try_calm ?_))
  k_with "m:mine:passes_own" => exact fun _ _ h => (show False from h).elim
  k_with "m:inplaceOp Add" => (k_here; (with_reducible show wpAny _ _ (inplaceOp Operator.Add (Value.bytes _ _) (Value.bytes _ _)) _ _ _); (refine iadd_bytes (by walk_at "mine:size") ?_); intro _ _)
  k_with "m:call builtin:bytes.split" => (k_here; (show wpAny _ _ (call (Value.builtin "bytes.split") [Value.bytes _ _, Value.bytes _ _]) _ _ _); k_dflt (refine' call_split1 (by (k_asm)) (by (k_asm)) (by (walk_at "mine:size")) ?_); intro l' h' vs' k' hv' hn' F' N' l1'; (try dsimp only))
  k_with "m:call builtin:len" => (k_here; (show wpAny _ _ (call (Value.builtin "len") [Value.ref _]) _ _ _); k_dflt (refine' len_L (by (k_asm)) (by (k_mem)) (by (omega)) ?_); intro _ _)
  k_with "m:mine:at" => with_reducible (first | exact At.here | assumption | exact At.skip (by decide) (by walk_at "mine:at"))
  k_with "m:eval Name" => (k_here; (with_reducible fail_if_success show wpAny _ _ (eval _ (compEnvC _ _ _ _)) _ _ _); (with_reducible fail_if_success show wpAny _ _ (eval _ (compEnv _ _ _)) _ _ _); (with_reducible fail_if_success show wpAny _ _ (eval _ (envOfC _ _ _ _ _)) _ _ _); (with_reducible rename At _ _ _ => hAt'); k_dflt (refine' ldA (by (k_asm)) (by (walk_at "mine:at")) ?_))
  k_with "m:loadName" => (k_here; (with_reducible fail_if_success show wpAny _ _ (loadName (envOfC _ _ _ _ _) _) _ _ _); (with_reducible rename At _ _ _ => hAt'); k_dflt (refine' ldnA (by (k_asm)) (by (walk_at "mine:at")) ?_))
  k_with "m:subscriptTail" => (k_here; (with_reducible show wpAny _ _ (subscriptTail _ _ (Value.ref _) (Value.int (-1) _)) _ _ _); k_dflt (refine' item_last (by (k_asm)) (by (k_mem)) ?_))
  k_with "m:mine:enterC" => (refine' code_defC (by (k_asm)) (by (k_asm)) (by (k_asm)) (by (k_asm)) (by (k_asm)) (by (exact rfl)) (by (exact rfl)) (by (assumption)) (by (k_is)) (by (k_is)) (by (ktr_room)) (by (exact BindsTo.of_eq rfl)) (by (exact rfl)) (by (decide +kernel)) ?_ (by (exact rfl)) (by (exact rfl)) (by (exact rfl)); k_whole; intro g' L' h' tk' cells' FG' F' N' Y' B' X' T' l1; (have hL9 := Lts.mk' l1; (repeat (replace hL9 := Lts.drop hL9))); (try k_lt l1); k_cells Y'; (try simp only [List.cons_append, List.nil_append] at N'); (try dsimp only); (try k_lift B'); (try k_fold))
  k_with "m:call ref" => (k_here; (with_reducible show wpAny _ _ (call (Value.ref 94) [Value.bytes _ _]) _ _ _); k_dflt (refine' Claim.use (fspath_ok _ _) (by (k_asm)) (by (k_asm)) (by (k_asm)) (by (k_asm)) (by (k_asm)) (by (first | exact rfl | assumption)) (by (ktr_room)) (by (ktr_units)) ?_); intro v h' tk' hv F' N'; subst hv; (try dsimp only); (try k_fold))
  k_with "m:call ref" => (k_here; (with_reducible show wpAny _ _ (call (Value.ref 108) [Value.bytes _ _]) _ _ _); k_dflt (refine' Claim.use (get_sep_ok _ _) (by (k_asm)) (by (k_asm)) (by (k_asm)) (by (k_asm)) (by (k_asm)) (by (first | exact rfl | assumption)) (by (ktr_room)) (by (ktr_units)) ?_); intro v h' tk' hv F' N'; (obtain ⟨t9, hv⟩ := hv); subst hv; (try dsimp only); (try k_fold))
  k_with "m:call ref" => (k_here; (with_reducible show wpAny _ _ (call (Value.ref 122) [Value.bytes _ _]) _ _ _); k_dflt (refine' Claim.use (dirname_ok _ _ (by (walk_at "mine:size"))) (by (k_asm)) (by (k_asm)) (by (k_asm)) (by (k_asm)) (by (k_asm)) (by (first | exact rfl | assumption)) (by (ktr_room)) (by (ktr_units)) ?_); intro v h' tk' hv F' N'; (obtain ⟨t9, hv⟩ := hv); subst hv; (try dsimp only); (try k_fold))
  k_with "m:call ref" => (k_here; (with_reducible show wpAny _ _ (call (Value.ref 127) [Value.ref _]) _ _ _); k_dflt (refine' common_use (by (k_asm)) (by (k_asm)) (by (k_asm)) (by (k_asm)) (by (k_asm)) (by (first | exact rfl | assumption)) (by (walk_at "mine:size")) (by (walk_at "mine:size")) (by (assumption)) (by (assumption)) (by (ktr_room)) (by (ktr_units)) ?_); intro v h' tk' hv F' N'; (obtain ⟨t9, hv⟩ := hv); subst hv; (try dsimp only); (try k_fold))
  k_with "m:mine:k_all" => ((with_reducible rename Lts _ _ => hL8); exact Lts.ne hL8 (by omega))
  k_with "m:mine:enterP" => (refine' code_defP clean_kept (by (k_asm)) (by (k_asm)) (by (k_asm)) (by (k_asm)) (by (k_asm)) (by (exact rfl)) (by (exact rfl)) (by (assumption)) (by (k_is)) (by (k_is)) (by (ktr_room)) (by (exact BindsTo.of_eq rfl)) (by (exact rfl)) (by (decide +kernel)) ?_ (by (exact rfl)) (by (exact rfl)) (by (exact rfl)); k_whole; intro g' L' h' tk' cells' FG' F' N' Y' B' X' T' l1; (have hL9 := Lts.mk' l1; (repeat (replace hL9 := Lts.drop hL9))); (try k_lt l1); (cases Y'); (try simp only [List.cons_append, List.nil_append] at N'); (try dsimp only); (try k_lift B'); (try k_fold))
  trivial
section
set_option maxRecDepth 100000 in
set_option maxHeartbeats 1000000 in
theorem mirror_ok (b : Array UInt8) (t : Tok) (hb : b.size ≤ 1000) : ClaimP 3 60 141 [.bytes b t] (fun v => ∃ t', v = .bytes b.reverse t') := by
  unfold ClaimP
  k_fill
  intro w mean mg mb news dp un gd cn cs a ccd cl outer A₀ base h₀ L m s Q E B F X N T hk hd hu hret
  refine wpP_call clean_kept ?_
  k_dflt walk_at "mine:enterP"
  refine execsP (ReturnP (CallP ?_))
  k_steps
  refine callWith_refP (splConsP ?_)
  refine wpP.of_any ?_
  k_steps
  refine splConsP ?_
  refine wpP.of_any ?_
  k_steps
  refine splNilP ?_
  refine ⟨?fn, ?_⟩
  case fn =>
    refine' fn_at ?f2 ?f3 ?f1
    case f2 => k_asm
    case f3 => k_asm
    case f1 => k_is
  rcases Nat.eq_zero_or_pos b.size with h0 | h0
  · have hbe : b = #[] := Array.eq_empty_of_size_eq_zero h0
    subst hbe
    have e : (if ((#[] : Array UInt8).size : Int) > 1 then ((#[] : Array UInt8).size : Int) else 1) = 1 := rfl
    rw [e]
    k_dflt (refine' ClaimP.use (swap_ok0 _ _) (by k_asm) (by k_asm) (by k_asm) (by k_asm) (by k_asm) (by first | exact rfl | assumption) (by ktr_room) (by ktr_units) ?_)
    intro v h' tk' hv F' N'
    obtain ⟨t9, rfl⟩ := hv
    dsimp only
    k_steps
    all_goals (refine hret _ _ _ ⟨_, rfl⟩ ?f ?n; (case f => assumption); (case n => walk_at "mine:news"))
  · have e : (if (b.size : Int) > 1 then (b.size : Int) else 1) = (b.size : Int) := by split <;> omega
    rw [e]
    k_dflt (refine' ClaimP.use (swap_ok1 b _ _ hb h0) (by k_asm) (by k_asm) (by k_asm) (by k_asm) (by k_asm) (by first | exact rfl | assumption) (by ktr_room) (by ktr_units) ?_)
    intro v h' tk' hv F' N'
    obtain ⟨t9, rfl⟩ := hv
    dsimp only
    k_steps
    all_goals (refine hret _ _ _ ⟨_, rfl⟩ ?f ?n; (case f => assumption); (case n => walk_at "mine:news"))
end
theorem rules_L1 : True := by
  k_with_none
  k_with "m:call type:type" => (k_here; (with_reducible show wpAny _ _ (call (Value.type "type") [Value.bytes _ _]) _ _ _); (refine type_bytes ?_))
  k_with "m:call builtin:issubclass" => (k_here; (show wpAny _ _ (call (Value.builtin "issubclass") [Value.type "bytes", Value.ref _]) _ _ _); k_dflt (refine' issub_N (by (k_asm)) (by (k_mem)) ?_))
  k_with "m:mine:news" => first | assumption | (refine cb_drop (by assumption) ?_; intro p hp; repeat (first | exact hp | refine List.mem_cons_of_mem _ ?_))
  k_with "m:mine:size" => first | omega | (simp only [Array.size_append, List.size_toArray, List.length_cons, List.length_nil] at *; omega)
  k_with "m:getMethod bytes" => (k_here; (with_reducible first | refine meth FB.slot_bytes_startswith FB.type_bytes_startswith ?_ | refine meth FB.slot_bytes_endswith FB.type_bytes_endswith ?_ | refine meth slot_rfind type_rfind ?_ | refine meth slot_rstrip type_rstrip ?_ | refine meth slot_split type_split ?_ | refine meth slot_join type_join ?_))
  k_with "m:call builtin:bytes.startswith" => (k_here; (show wpAny _ _ (call (Value.builtin "bytes.startswith") [Value.bytes _ _, Value.bytes _ _]) _ _ _); (refine call_starts ?_))
  k_with "m:call builtin:bytes.endswith" => (k_here; (show wpAny _ _ (call (Value.builtin "bytes.endswith") [Value.bytes _ _, Value.bytes _ _]) _ _ _); (refine call_ends ?_))
  k_with "m:call builtin:bytes.rfind" => (k_here; (show wpAny _ _ (call (Value.builtin "bytes.rfind") [Value.bytes _ _, Value.bytes _ _]) _ _ _); (refine call_rfind ?_))
  k_with "m:call builtin:bytes.rstrip" => (k_here; (show wpAny _ _ (call (Value.builtin "bytes.rstrip") [Value.bytes _ _, Value.bytes _ _]) _ _ _); (refine call_rstrip (by walk_at "mine:size") ?_); intro _ _)
  k_with "m:truthy bytes" => (k_here; (with_reducible show wpAny _ _ (truthy (Value.bytes _ _)) _ _ _); (refine truthy_bytes (by walk_at "mine:size") ?_))
  k_with "m:call builtin:len" => (k_here; (show wpAny _ _ (call (Value.builtin "len") [Value.bytes _ _]) _ _ _); (refine len_bytes (by walk_at "mine:size") ?_))
  k_with "m:subscriptTail" => (k_here; (with_reducible show wpAny _ _ (subscriptTail _ (Expr.Slice _ _ none _) (Value.bytes _ _) (Value.ref _)) _ _ _); (with_reducible rename Fr _ _ _ _ => F'); (with_reducible rename News _ _ _ _ => N'); (refine slice_B (s := ⟨_, _, _, _, _⟩) F' N' (by constructor) (by constructor) (by walk_at "mine:size") ?_); intro _ _ _ F' N' hsz')
  k_with "m:binaryOp Mult bytes int" => (k_here; (with_reducible show wpAny _ _ (binaryOp Operator.Mult (Value.bytes _ _) (Value.int _ _)) _ _ _); (refine mul_one (by omega) (by walk_at "mine:size") ?_); intro _ _)
  k_with "m:binaryOp Add bytes bytes" => (k_here; (with_reducible show wpAny _ _ (binaryOp Operator.Add (Value.bytes _ _) (Value.bytes _ _)) _ _ _); (refine KBy.add_bytes (by walk_at "mine:size") ?_); intro _ _)
  k_with "m:compareOp NotEq bytes bytes" => (k_here; (refine ne_bytes ?_))
  k_with "m:compareOp Eq bytes bytes" => (k_here; (refine eq_bytes ?_))
  k_with "m:exec Try" => (k_here; (refine Try_calm ?_))
  k_with "m:mine:passes_own" => exact fun _ _ h => (show False from h).elim
  k_with "m:inplaceOp Add" => (k_here; (with_reducible show wpAny _ _ (inplaceOp Operator.Add (Value.bytes _ _) (Value.bytes _ _)) _ _ _); (refine iadd_bytes (by walk_at "mine:size") ?_); intro _ _)
  k_with "m:call builtin:bytes.split" => (k_here; (show wpAny _ _ (call (Value.builtin "bytes.split") [Value.bytes _ _, Value.bytes _ _]) _ _ _); k_dflt (refine' call_split1 (by (k_asm)) (by (k_asm)) (by (walk_at "mine:size")) ?_); intro l' h' vs' k' hv' hn' F' N' l1'; (try dsimp only))
  k_with "m:call builtin:len" => (k_here; (show wpAny _ _ (call (Value.builtin "len") [Value.ref _]) _ _ _); k_dflt (refine' len_L (by (k_asm)) (by (k_mem)) (by (omega)) ?_); intro _ _)
  k_with "m:mine:at" => with_reducible (first | exact At.here | assumption | exact At.skip (by decide) (by walk_at "mine:at"))
  k_with "m:eval Name" => (k_here; (with_reducible fail_if_success show wpAny _ _ (eval _ (compEnvC _ _ _ _)) _ _ _); (with_reducible fail_if_success show wpAny _ _ (eval _ (compEnv _ _ _)) _ _ _); (with_reducible fail_if_success show wpAny _ _ (eval _ (envOfC _ _ _ _ _)) _ _ _); (with_reducible rename At _ _ _ => hAt'); k_dflt (refine' ldA (by (k_asm)) (by (walk_at "mine:at")) ?_))
  k_with "m:loadName" => (k_here; (with_reducible fail_if_success show wpAny _ _ (loadName (envOfC _ _ _ _ _) _) _ _ _); (with_reducible rename At _ _ _ => hAt'); k_dflt (refine' ldnA (by (k_asm)) (by (walk_at "mine:at")) ?_))
  k_with "m:subscriptTail" => (k_here; (with_reducible show wpAny _ _ (subscriptTail _ _ (Value.ref _) (Value.int (-1) _)) _ _ _); k_dflt (refine' item_last (by (k_asm)) (by (k_mem)) ?_))
  k_with "m:mine:enterC" => (refine' code_defC (by (k_asm)) (by (k_asm)) (by (k_asm)) (by (k_asm)) (by (k_asm)) (by (exact rfl)) (by (exact rfl)) (by (assumption)) (by (k_is)) (by (k_is)) (by (ktr_room)) (by (exact BindsTo.of_eq rfl)) (by (exact rfl)) (by (decide +kernel)) ?_ (by (exact rfl)) (by (exact rfl)) (by (exact rfl)); k_whole; intro g' L' h' tk' cells' FG' F' N' Y' B' X' T' l1; (have hL9 := Lts.mk' l1; (repeat (replace hL9 := Lts.drop hL9))); (try k_lt l1); k_cells Y'; (try simp only [List.cons_append, List.nil_append] at N'); (try dsimp only); (try k_lift B'); (try k_fold))
  k_with "m:call ref" => (k_here; (with_reducible show wpAny _ _ (call (Value.ref 94) [Value.bytes _ _]) _ _ _); k_dflt (refine' Claim.use (fspath_ok _ _) (by (k_asm)) (by (k_asm)) (by (k_asm)) (by (k_asm)) (by (k_asm)) (by (first | exact rfl | assumption)) (by (ktr_room)) (by (ktr_units)) ?_); intro v h' tk' hv F' N'; subst hv; (try dsimp only); (try k_fold))
  k_with "m:call ref" => (k_here; (with_reducible show wpAny _ _ (call (Value.ref 108) [Value.bytes _ _]) _ _ _); k_dflt (refine' Claim.use (get_sep_ok _ _) (by (k_asm)) (by (k_asm)) (by (k_asm)) (by (k_asm)) (by (k_asm)) (by (first | exact rfl | assumption)) (by (ktr_room)) (by (ktr_units)) ?_); intro v h' tk' hv F' N'; (obtain ⟨t9, hv⟩ := hv); subst hv; (try dsimp only); (try k_fold))
  k_with "m:call ref" => (k_here; (with_reducible show wpAny _ _ (call (Value.ref 122) [Value.bytes _ _]) _ _ _); k_dflt (refine' Claim.use (dirname_ok _ _ (by (walk_at "mine:size"))) (by (k_asm)) (by (k_asm)) (by (k_asm)) (by (k_asm)) (by (k_asm)) (by (first | exact rfl | assumption)) (by (ktr_room)) (by (ktr_units)) ?_); intro v h' tk' hv F' N'; (obtain ⟨t9, hv⟩ := hv); subst hv; (try dsimp only); (try k_fold))
  k_with "m:call ref" => (k_here; (with_reducible show wpAny _ _ (call (Value.ref 127) [Value.ref _]) _ _ _); k_dflt (refine' common_use (by (k_asm)) (by (k_asm)) (by (k_asm)) (by (k_asm)) (by (k_asm)) (by (first | exact rfl | assumption)) (by (walk_at "mine:size")) (by (walk_at "mine:size")) (by (assumption)) (by (assumption)) (by (ktr_room)) (by (ktr_units)) ?_); intro v h' tk' hv F' N'; (obtain ⟨t9, hv⟩ := hv); subst hv; (try dsimp only); (try k_fold))
  k_with "m:mine:k_all" => ((with_reducible rename Lts _ _ => hL8); exact Lts.ne hL8 (by omega))
  k_with "m:subscriptTail Name Slice ref ref" => (k_here; (with_reducible show wpAny _ _ (subscriptTail _ (PySem.Expr.Slice _ _ (some _) _) (PySem.Value.ref _) (PySem.Value.ref _)) _ _ _); k_dflt (refine' slice3_ints (s := ⟨_, _, _, _, _⟩) (by (k_asm)) (by (k_asm)) (by (assumption)) (by (assumption)) (by (constructor)) (by (constructor)) (by (constructor)) (by (decide)) (by (assumption)) ?_); intro D' h' ws' ns' F' N' l1 hI')
  k_with "m:call builtin:sum" => (k_here; (show wpAny _ _ (call (PySem.Value.builtin "sum") [PySem.Value.ref _]) _ _ _); k_dflt (refine' sumK (by (exact rfl)) (by (k_asm)) (by (k_asm)) (by (exact News.isList (by k_asm) (by k_mem))) (by (assumption)) ?_); intro h' tk' t' F' N')
  k_with "m:subscriptTail Name Name ref int" => (k_here; (with_reducible show wpAny _ _ (subscriptTail _ _ (PySem.Value.ref _) (PySem.Value.int _ _)) _ _ _); k_dflt (refine item_any (Pv := IsInt) (by k_asm) (by k_mem) (by omega) (by (simp only [List.length_cons, List.length_nil]; omega)) (Nat.le_of_ble_eq_true rfl) (by repeat (first | exact List.forall_mem_nil _ | refine List.forall_mem_cons.mpr ⟨⟨_, _, rfl⟩, ?_⟩)) ?_); intro v' hv'; (obtain ⟨j', t', hv'⟩ := hv'); subst hv')
  k_with "m:subscriptTail Name BinOp ref int" => (k_here; (with_reducible show wpAny _ _ (subscriptTail _ _ (PySem.Value.ref _) (PySem.Value.int _ _)) _ _ _); k_dflt (refine item_any (Pv := IsKind) (by k_asm) (by k_mem) (by omega) (by (simp only [List.length_cons, List.length_nil]; omega)) (Nat.le_of_ble_eq_true rfl) (by repeat (first | exact List.forall_mem_nil _ | refine List.forall_mem_cons.mpr ⟨⟨_, _, rfl, by unfold Kind; decide⟩, ?_⟩)) ?_); intro v' hv'; (obtain ⟨b', t', hv', hK'⟩ := hv'); subst hv')
  trivial
noncomputable def lawBody : List Stmt := lawRec.1.1.body
noncomputable def lawScope : Scope := lawRec.1.1.scope
section
/-- the octets a name may be -/
noncomputable def Kind (b : Array UInt8) : Prop := b = #[97, 98] ∨ b = #[97] ∨ b = #[98, 97] ∨ b = #[97, 98, 97]
noncomputable def OffN : List (Addr × Obj) → Addr → Prop
  | [], _ => True
  | p :: ps, D => @Ne Nat p.1 D ∧ OffN ps D
theorem offN : ∀ {ps : List (Addr × Obj)} {D : Addr}, (∀ q ∈ ps, q.1 ≠ D) → OffN ps D
  | [], _, _ => trivial
  | _ :: _, _, h => ⟨h _ List.mem_cons_self, offN fun q hq => h q (List.mem_cons_of_mem _ hq)⟩
noncomputable def IsInt (v : PySem.Value) : Prop := ∃ j t, v = .int j t
noncomputable def IsKind (v : PySem.Value) : Prop := ∃ b t, v = .bytes b t ∧ Kind b
set_option maxRecDepth 100000 in
set_option maxHeartbeats 4000000 in
theorem law_s1 (w : World) (mean : ExcName → Option PySem.Value) (mg mb : Str → Option PySem.Value) (h₀ : Heap) (L fa lx : Addr) (cd : PySem.Value) (xs : List Int) (vs : List PySem.Value) (o1 o2 o3 o4 o5 o6 : Obj) (s : Shared) (Q : Flow → Shared → Prop)
    (B : Below callerA h₀ [] h₀) (X : (Mine.lawK w.params).In h₀) (T : Top Mine.hd.view_1_2 (looseW Mine.hd.view_1_2 []) mean mg mb h₀) (hlx : h₀.IsList lx vs.toArray) (hI : IntsAre vs xs) (hlen : xs.length ≤ 63)
    (d1 : o1.data = .cell (some (.ref lx))) (d2 : o2.data = .cell none) (d3 : o3.data = .cell none) (d4 : o4.data = .cell none) (d5 : o5.data = .cell none) (d6 : o6.data = .cell none)
    (F : Fr h₀ L s.heap (fun _ => none)) (N : News h₀ L s.heap [(L + 1 + 1 + 1 + 1 + 1 + 1, o6), (L + 1 + 1 + 1 + 1 + 1, o5), (L + 1 + 1 + 1 + 1, o4), (L + 1 + 1 + 1, o3), (L + 1 + 1, o2), (L + 1, o1)])
    (k : ∀ (ln : Addr) (ys : List PySem.Value) (ns : List (Array UInt8)) (o4 : Obj) (h : Heap) (tk : Nat), BytesAre ys ns → ns.length = 8 → (∀ b ∈ ns, Kind b) → o4.data = .cell (some (.ref ln)) → @Ne Nat (L + 1 + 1 + 1 + 1 + 1 + 1) ln → @Ne Nat (L + 1 + 1 + 1 + 1 + 1) ln → @Ne Nat (L + 1 + 1 + 1 + 1) ln →
      Fr h₀ L h (fun _ => none) → News h₀ L h [(ln, lstN ys), (L + 1 + 1 + 1 + 1 + 1 + 1, o6), (L + 1 + 1 + 1 + 1 + 1, o5), (L + 1 + 1 + 1 + 1, o4)] →
      wpP Clean (model PySem.Challenge.rw_pd0128_01.row.prog w) (callerA.deeper (envOfC (Str.ofString "law") lawScope L fa cd)) (execs (lawBody.drop 3) (envOfC (Str.ofString "law") lawScope L fa cd)) Q (fun _ _ => False) { s with heap := h, toks := tk }) :
    wpP Clean (model PySem.Challenge.rw_pd0128_01.row.prog w) (callerA.deeper (envOfC (Str.ofString "law") lawScope L fa cd)) (execs lawBody (envOfC (Str.ofString "law") lawScope L fa cd)) Q (fun _ _ => False) s := by
  revert X
  k_fill
  intro X
  unfold lawBody lawScope lawRec
  dsimp only
  refine execsP ?_
  refine wpP.of_any ?_
  k_steps
  refine execsP ?_
  refine wpP.of_any ?_
  k_steps
  (with_reducible rename Fr _ _ _ _ => F₁)
  (with_reducible rename News _ _ _ _ => N₁)
  refine execsP ?_
  refine AssignP ?_
  refine eval_LCG clean_kept (by with_unfolding_all rfl) rfl (by decide) (by intro _; rfl) ?_
  refine wpP.of_any ?_
  k_steps
  dsimp only
  refine comp_rng clean_kept rfl (by decide) rfl (by rfl) (a := 0) (b := 8) (c := 1) (n := 8) rfl rfl (by assumption) (by assumption) (by assumption) (by decide) (fun i ys nw => (∃ ns, BytesAre ys ns ∧ ns.length = i ∧ ∀ b ∈ ns, Kind b) ∧ nw = _) ?hlen ⟨⟨[], .nil, rfl, fun b hb => nomatch hb⟩, rfl⟩ ?turn ?fin
  case hlen =>
    rintro i ys nw ⟨⟨ns, hB, hl, _⟩, _⟩
    rw [hB.length, hl]
    exact Nat.le_refl _
  case turn =>
    rintro i t ys nw hi ⟨⟨ns, hB, hl, hK⟩, rfl⟩ h₁ tk₁ I oI C oC D m₂ off ne hoC hm₂ F₂ N₂
    refine Tests_nil ?_
    rw [if_pos rfl]
    refine wpP.of_any ?_
    k_steps
    all_goals (
      refine CEnd.intro _ (by assumption) (by assumption) (fun p hp => List.mem_cons_of_mem _ hp) off ⟨⟨ns ++ [_], hB.snoc, by simp [hl], fun b hb => ?_⟩, rfl⟩
      rcases List.mem_append.mp hb with hb | hb
      · exact hK b hb
      · rw [List.mem_singleton.mp hb]; assumption)
  case fin =>
    rintro ys nw ⟨⟨ns, hB, hl, hK⟩, rfl⟩
    refine CFin.eval ?_
    intro D h₂ tk₂ F₂ N₂ off
    have off := offN off
    simp only [OffN] at off
    k_steps
    refine k D ys ns _ _ _ hB hl hK (by assumption) off.2.2.1 off.2.2.2.1 off.2.2.2.2.1 (by assumption) ?_
    (with_reducible rename News _ _ _ _ => N9)
    intro p hp
    refine N9 p ?_
    simp only [List.mem_cons, List.not_mem_nil, or_false] at hp ⊢
    rcases hp with h | h | h | h <;> simp only [h, true_or, or_true]
end
theorem rules_L2 : True := by
  k_with_none
  k_with "m:call type:type" => (k_here; (with_reducible show wpAny _ _ (call (Value.type "type") [Value.bytes _ _]) _ _ _); (refine type_bytes ?_))
  k_with "m:call builtin:issubclass" => (k_here; (show wpAny _ _ (call (Value.builtin "issubclass") [Value.type "bytes", Value.ref _]) _ _ _); k_dflt (refine' issub_N (by (k_asm)) (by (k_mem)) ?_))
  k_with "m:mine:news" => first | assumption | (refine cb_drop (by assumption) ?_; intro p hp; repeat (first | exact hp | refine List.mem_cons_of_mem _ ?_))
  k_with "m:mine:size" => first | omega | (simp only [Array.size_append, List.size_toArray, List.length_cons, List.length_nil] at *; omega)
  k_with "m:getMethod bytes" => (k_here; (with_reducible first | refine meth FB.slot_bytes_startswith FB.type_bytes_startswith ?_ | refine meth FB.slot_bytes_endswith FB.type_bytes_endswith ?_ | refine meth slot_rfind type_rfind ?_ | refine meth slot_rstrip type_rstrip ?_ | refine meth slot_split type_split ?_ | refine meth slot_join type_join ?_))
  k_with "m:call builtin:bytes.startswith" => (k_here; (show wpAny _ _ (call (Value.builtin "bytes.startswith") [Value.bytes _ _, Value.bytes _ _]) _ _ _); (refine call_starts ?_))
  k_with "m:call builtin:bytes.endswith" => (k_here; (show wpAny _ _ (call (Value.builtin "bytes.endswith") [Value.bytes _ _, Value.bytes _ _]) _ _ _); (refine call_ends ?_))
  k_with "m:call builtin:bytes.rfind" => (k_here; (show wpAny _ _ (call (Value.builtin "bytes.rfind") [Value.bytes _ _, Value.bytes _ _]) _ _ _); (refine call_rfind ?_))
  k_with "m:call builtin:bytes.rstrip" => (k_here; (show wpAny _ _ (call (Value.builtin "bytes.rstrip") [Value.bytes _ _, Value.bytes _ _]) _ _ _); (refine call_rstrip (by walk_at "mine:size") ?_); intro _ _)
  k_with "m:truthy bytes" => (k_here; (with_reducible show wpAny _ _ (truthy (Value.bytes _ _)) _ _ _); (refine truthy_bytes (by walk_at "mine:size") ?_))
  k_with "m:call builtin:len" => (k_here; (show wpAny _ _ (call (Value.builtin "len") [Value.bytes _ _]) _ _ _); (refine len_bytes (by walk_at "mine:size") ?_))
  k_with "m:subscriptTail" => (k_here; (with_reducible show wpAny _ _ (subscriptTail _ (Expr.Slice _ _ none _) (Value.bytes _ _) (Value.ref _)) _ _ _); (with_reducible rename Fr _ _ _ _ => F'); (with_reducible rename News _ _ _ _ => N'); (refine slice_B (s := ⟨_, _, _, _, _⟩) F' N' (by constructor) (by constructor) (by walk_at "mine:size") ?_); intro _ _ _ F' N' hsz')
  k_with "m:binaryOp Mult bytes int" => (k_here; (with_reducible show wpAny _ _ (binaryOp Operator.Mult (Value.bytes _ _) (Value.int _ _)) _ _ _); (refine mul_one (by omega) (by walk_at "mine:size") ?_); intro _ _)
  k_with "m:binaryOp Add bytes bytes" => (k_here; (with_reducible show wpAny _ _ (binaryOp Operator.Add (Value.bytes _ _) (Value.bytes _ _)) _ _ _); (refine KBy.add_bytes (by walk_at "mine:size") ?_); intro _ _)
  k_with "m:compareOp NotEq bytes bytes" => (k_here; (refine ne_bytes ?_))
  k_with "m:compareOp Eq bytes bytes" => (k_here; (refine eq_bytes ?_))
  k_with "m:exec Try" => (k_here; (refine Try_calm ?_))
  k_with "m:mine:passes_own" => exact fun _ _ h => (show False from h).elim
  k_with "m:inplaceOp Add" => (k_here; (with_reducible show wpAny _ _ (inplaceOp Operator.Add (Value.bytes _ _) (Value.bytes _ _)) _ _ _); (refine iadd_bytes (by walk_at "mine:size") ?_); intro _ _)
  k_with "m:call builtin:bytes.split" => (k_here; (show wpAny _ _ (call (Value.builtin "bytes.split") [Value.bytes _ _, Value.bytes _ _]) _ _ _); k_dflt (refine' call_split1 (by (k_asm)) (by (k_asm)) (by (walk_at "mine:size")) ?_); intro l' h' vs' k' hv' hn' F' N' l1'; (try dsimp only))
  k_with "m:call builtin:len" => (k_here; (show wpAny _ _ (call (Value.builtin "len") [Value.ref _]) _ _ _); k_dflt (refine' len_L (by (k_asm)) (by (k_mem)) (by (omega)) ?_); intro _ _)
  k_with "m:mine:at" => with_reducible (first | exact At.here | assumption | exact At.skip (by decide) (by walk_at "mine:at"))
  k_with "m:eval Name" => (k_here; (with_reducible fail_if_success show wpAny _ _ (eval _ (compEnvC _ _ _ _)) _ _ _); (with_reducible fail_if_success show wpAny _ _ (eval _ (compEnv _ _ _)) _ _ _); (with_reducible fail_if_success show wpAny _ _ (eval _ (envOfC _ _ _ _ _)) _ _ _); (with_reducible rename At _ _ _ => hAt'); k_dflt (refine' ldA (by (k_asm)) (by (walk_at "mine:at")) ?_))
  k_with "m:loadName" => (k_here; (with_reducible fail_if_success show wpAny _ _ (loadName (envOfC _ _ _ _ _) _) _ _ _); (with_reducible rename At _ _ _ => hAt'); k_dflt (refine' ldnA (by (k_asm)) (by (walk_at "mine:at")) ?_))
  k_with "m:subscriptTail" => (k_here; (with_reducible show wpAny _ _ (subscriptTail _ _ (Value.ref _) (Value.int (-1) _)) _ _ _); k_dflt (refine' item_last (by (k_asm)) (by (k_mem)) ?_))
  k_with "m:mine:enterC" => (refine' code_defC (by (k_asm)) (by (k_asm)) (by (k_asm)) (by (k_asm)) (by (k_asm)) (by (exact rfl)) (by (exact rfl)) (by (assumption)) (by (k_is)) (by (k_is)) (by (ktr_room)) (by (exact BindsTo.of_eq rfl)) (by (exact rfl)) (by (decide +kernel)) ?_ (by (exact rfl)) (by (exact rfl)) (by (exact rfl)); k_whole; intro g' L' h' tk' cells' FG' F' N' Y' B' X' T' l1; (have hL9 := Lts.mk' l1; (repeat (replace hL9 := Lts.drop hL9))); (try k_lt l1); k_cells Y'; (try simp only [List.cons_append, List.nil_append] at N'); (try dsimp only); (try k_lift B'); (try k_fold))
  k_with "m:call ref" => (k_here; (with_reducible show wpAny _ _ (call (Value.ref 94) [Value.bytes _ _]) _ _ _); k_dflt (refine' Claim.use (fspath_ok _ _) (by (k_asm)) (by (k_asm)) (by (k_asm)) (by (k_asm)) (by (k_asm)) (by (first | exact rfl | assumption)) (by (ktr_room)) (by (ktr_units)) ?_); intro v h' tk' hv F' N'; subst hv; (try dsimp only); (try k_fold))
  k_with "m:call ref" => (k_here; (with_reducible show wpAny _ _ (call (Value.ref 108) [Value.bytes _ _]) _ _ _); k_dflt (refine' Claim.use (get_sep_ok _ _) (by (k_asm)) (by (k_asm)) (by (k_asm)) (by (k_asm)) (by (k_asm)) (by (first | exact rfl | assumption)) (by (ktr_room)) (by (ktr_units)) ?_); intro v h' tk' hv F' N'; (obtain ⟨t9, hv⟩ := hv); subst hv; (try dsimp only); (try k_fold))
  k_with "m:call ref" => (k_here; (with_reducible show wpAny _ _ (call (Value.ref 122) [Value.bytes _ _]) _ _ _); k_dflt (refine' Claim.use (dirname_ok _ _ (by (walk_at "mine:size"))) (by (k_asm)) (by (k_asm)) (by (k_asm)) (by (k_asm)) (by (k_asm)) (by (first | exact rfl | assumption)) (by (ktr_room)) (by (ktr_units)) ?_); intro v h' tk' hv F' N'; (obtain ⟨t9, hv⟩ := hv); subst hv; (try dsimp only); (try k_fold))
  k_with "m:call ref" => (k_here; (with_reducible show wpAny _ _ (call (Value.ref 127) [Value.ref _]) _ _ _); k_dflt (refine' common_use (by (k_asm)) (by (k_asm)) (by (k_asm)) (by (k_asm)) (by (k_asm)) (by (first | exact rfl | assumption)) (by (walk_at "mine:size")) (by (walk_at "mine:size")) (by (assumption)) (by (assumption)) (by (ktr_room)) (by (ktr_units)) ?_); intro v h' tk' hv F' N'; (obtain ⟨t9, hv⟩ := hv); subst hv; (try dsimp only); (try k_fold))
  k_with "m:mine:k_all" => ((with_reducible rename Lts _ _ => hL8); exact Lts.ne hL8 (by omega))
  k_with "m:eval Name" => (k_here; (with_reducible show wpAny _ _ (eval _ (envOfC _ _ _ _ _)) _ _ _); (with_reducible rename At _ _ _ => hAt'); k_dflt (refine' ldX (by (k_asm)) (by (walk_at "mine:at")) ?_ (by (rfl)) (by (rfl))))
  k_with "m:call ref" => (k_here; (with_reducible show wpAny _ _ (call (PySem.Value.ref 115) [PySem.Value.bytes _ _, PySem.Value.bytes _ _]) _ _ _); k_dflt (refine' Claim.use (cn := Str.ofString "law") (join_ok _ _ _ _ (by (assumption)) (by (assumption))) (by (k_asm)) (by (k_asm)) (by (k_asm)) (by (k_asm)) (by (k_asm)) (by (first | exact rfl | assumption)) (by (ktr_room)) (by (ktr_units)) ?_); intro v h' tk' hv F' N'; (obtain ⟨t9, hv⟩ := hv); subst hv; (try dsimp only); (try k_fold))
  k_with "m:call ref" => (k_here; (with_reducible show wpAny _ _ (call (PySem.Value.ref 148) [PySem.Value.bytes _ _]) _ _ _); k_dflt (refine' ClaimL.use' (cn := Str.ofString "law") (climb_ok _ _ (by (assumption))) (by (k_asm)) (by (k_asm)) (by (k_asm)) (by (k_asm)) (by (k_asm)) (by (first | exact rfl | assumption)) (by (ktr_room)) (by (ktr_units)) ?_); intro l ws n h' tk' hv F' N' l1; (try dsimp only); (try k_fold))
  trivial
theorem ClaimL.use' {D U : Nat} {f : Addr} {vs : List PySem.Value} {R : List PySem.Value → Prop} (C : ClaimL D U f vs R) {w : World} {mean : ExcName → Option PySem.Value} {mg mb : Str → Option PySem.Value} {news : List (Addr × Obj)} {dp un : Nat} {gd : Option (List Code)} {cn : Str} {cs : Scope} {a : Addr} {ccd : PySem.Value} {cl : List (Str × Addr)} {outer : List Env} {A₀ : Around} {base h₀ : Heap} {L : Addr} {m : Str → Option PySem.Value} {s : Shared} {Q E : PySem.Value → Shared → Prop}
    (B : Below A₀ base outer h₀) (F : Fr h₀ L s.heap m) (X : (Mine.lawK w.params).In h₀) (N : News h₀ L s.heap news) (T : Top Mine.hd.view_1_2 (looseW Mine.hd.view_1_2 []) mean mg mb h₀) (hk : cs.kind = .function)
    (hd : dp + D < recursionLimit) (hu : un + U < cLine)
    (h : ∀ (l : Addr) (ws : List PySem.Value) (n : Nat) (h' : Heap) (tk' : Nat), R ws → Fr h₀ L h' m → News h₀ L h' ((l, listOf ws.toArray n) :: news) → (∀ p ∈ news, p.1 < l) → Q (.ref l) { s with heap := h', toks := tk' }) :
    wpAny (model PySem.Challenge.rw_pd0128_01.row.prog w) (ktrTop dp un gd cn cs L a ccd cl outer) (call (.ref f) vs) Q E s :=
  C w mean mg mb news dp un gd cn cs a ccd cl outer A₀ base h₀ L m s Q E B F X N T hk hd hu h
section
/-- the path: the names joined -/
noncomputable def pathOf (ns : List (Array UInt8)) : Array UInt8 := ns.foldl joinRaw #[]
theorem joinRaw_size (b c : Array UInt8) : (joinRaw b c).size ≤ b.size + c.size + 1 := by
  unfold joinRaw
  split
  · omega
  · split
    · omega
    · split <;> simp only [Array.size_append, List.size_toArray, List.length_cons, List.length_nil] <;> omega
theorem Kind.size {b : Array UInt8} (h : Kind b) : b.size ≤ 3 := by
  rcases h with rfl | rfl | rfl | rfl <;> decide
theorem path_fold_size : ∀ (ns : List (Array UInt8)) (b : Array UInt8), (∀ c ∈ ns, Kind c) → (ns.foldl joinRaw b).size ≤ b.size + 4 * ns.length
  | [], b, _ => Nat.le_add_right _ _
  | c :: ns, b, h => by
    have h1 := path_fold_size ns (joinRaw b c) fun c hc => h c (List.mem_cons_of_mem _ hc)
    have h2 := joinRaw_size b c
    have h3 := (h c List.mem_cons_self).size
    rw [List.foldl_cons, List.length_cons]
    omega
theorem pathOf_size {ns : List (Array UInt8)} (h : ∀ c ∈ ns, Kind c) : (pathOf ns).size ≤ 4 * ns.length := by
  have := path_fold_size ns #[] h
  unfold pathOf
  simpa using this
theorem pathOf_step (ns : List (Array UInt8)) (i : Nat) (hi : i < ns.length) : pathOf (ns.take (i + 1)) = joinRaw (pathOf (ns.take i)) (ns.getD i #[]) := by
  unfold pathOf
  rw [List.take_add_one, List.foldl_append, List.getElem?_eq_getElem hi, List.getD_eq_getElem?_getD, List.getElem?_eq_getElem hi]
  rfl
set_option maxRecDepth 100000 in
set_option maxHeartbeats 4000000 in
theorem law_s2 (w : World) (mean : ExcName → Option PySem.Value) (mg mb : Str → Option PySem.Value) (h₀ : Heap) (L fa ln : Addr) (cd : PySem.Value) (ys : List PySem.Value) (ns : List (Array UInt8)) (o4 o5 o6 : Obj) (s : Shared) (Q : Flow → Shared → Prop)
    (B : Below callerA h₀ [] h₀) (X : (Mine.lawK w.params).In h₀) (T : Top Mine.hd.view_1_2 (looseW Mine.hd.view_1_2 []) mean mg mb h₀)
    (hB : BytesAre ys ns) (hl : ns.length = 8) (hK : ∀ b ∈ ns, Kind b)
    (d4 : o4.data = .cell (some (.ref ln)))
    (F : Fr h₀ L s.heap (fun _ => none)) (N : News h₀ L s.heap [(ln, lstN ys), (L + 1 + 1 + 1 + 1 + 1 + 1, o6), (L + 1 + 1 + 1 + 1 + 1, o5), (L + 1 + 1 + 1 + 1, o4)])
    (k : ∀ (m : Str → Option PySem.Value) (t : Tok) (lc : Addr) (ws : List PySem.Value) (n : Nat) (h : Heap) (tk : Nat), BytesAre ws (climbL (pathOf ns) 8) → At m (Str.ofString "path") (.bytes (pathOf ns) t) → At m (Str.ofString "climb") (.ref lc) →
      (∀ p ∈ [(ln, lstN ys), (L + 1 + 1 + 1 + 1 + 1 + 1, o6), (L + 1 + 1 + 1 + 1 + 1, o5), (L + 1 + 1 + 1 + 1, o4)], p.1 < lc) →
      Fr h₀ L h m → News h₀ L h [(lc, listOf ws.toArray n), (ln, lstN ys), (L + 1 + 1 + 1 + 1 + 1 + 1, o6), (L + 1 + 1 + 1 + 1 + 1, o5), (L + 1 + 1 + 1 + 1, o4)] →
      wpP Clean (model PySem.Challenge.rw_pd0128_01.row.prog w) (callerA.deeper (envOfC (Str.ofString "law") lawScope L fa cd)) (execs (lawBody.drop 6) (envOfC (Str.ofString "law") lawScope L fa cd)) Q (fun _ _ => False) { s with heap := h, toks := tk }) :
    wpP Clean (model PySem.Challenge.rw_pd0128_01.row.prog w) (callerA.deeper (envOfC (Str.ofString "law") lawScope L fa cd)) (execs (lawBody.drop 3) (envOfC (Str.ofString "law") lawScope L fa cd)) Q (fun _ _ => False) s := by
  revert X
  k_fill
  intro X
  unfold lawBody lawScope lawRec at k ⊢
  dsimp only [List.drop] at k ⊢
  refine execsP ?_
  refine wpP.of_any ?_
  k_steps
  (with_reducible rename Fr _ _ _ _ => F₁)
  (with_reducible rename News _ _ _ _ => N₁)
  have hA := Fr_here F₁
  refine execsP ?_
  have hyl : ys.length = 8 := hB.length.trans hl
  refine For_lst clean_kept rfl F₁ N₁ (a := ln) (vs := ys) (k := ys.length) List.mem_cons_self ?hx (fun i m' nw => (∃ t, At m' (Str.ofString "path") (.bytes (pathOf (ns.take i)) t)) ∧ nw = [(ln, lstN ys), (L + 1 + 1 + 1 + 1 + 1 + 1, o6), (L + 1 + 1 + 1 + 1 + 1, o5), (L + 1 + 1 + 1 + 1, o4)]) ?hkeep ⟨⟨_, hA⟩, rfl⟩ ?turn ?fin
  case hx =>
    k_steps
    all_goals exact ⟨rfl, rfl⟩
  case hkeep =>
    rintro i m nw ⟨_, rfl⟩
    exact List.mem_cons_self
  case turn =>
    rintro i v m₁ news₁ h₁ tk₁ I oI hv ⟨⟨t, hP⟩, rfl⟩ off F₂ N₂
    have hi : i < ns.length := by
      rw [← hB.length]; exact (List.getElem?_eq_some_iff.mp hv).1
    obtain ⟨t2, ht2⟩ := bytes_nth i hB hi
    obtain rfl : .bytes (ns.getD i #[]) t2 = v := Option.some.inj (ht2.symm.trans hv)
    clear hA F₁ N₁
    have hz1 : (pathOf (ns.take i)).size ≤ 1000 := by
      have := pathOf_size (ns := ns.take i) fun c hc => hK c (List.mem_of_mem_take hc)
      have := List.length_take_le' i ns
      omega
    have hz2 : (ns.getD i #[]).size ≤ 1000 := by
      have : ns.getD i #[] = ns[i] := getD_at hi
      rw [this]
      have := (hK _ (List.getElem_mem hi)).size
      omega
    refine wpAny_assign_Name ?_
    k_steps
    refine wpP.of_any ?_
    k_steps
    all_goals (try k_data)
    refine TurnEnd.intro _ (by assumption) (by assumption) (fun p hp => hp) off ⟨⟨_, by rw [pathOf_step ns i hi]; exact At.here⟩, rfl⟩
  case fin =>
    rintro h' tk m' news' F₂ N₂ ⟨⟨t, hP⟩, rfl⟩
    have hP : At m' (Str.ofString "path") (.bytes (pathOf ns) t) := by rw [hyl, ← hl, List.take_length] at hP; exact hP
    have hz : (pathOf ns).size ≤ 1000 := by
      have := pathOf_size hK
      omega
    clear hA F₁ N₁
    refine execsP ?_
    refine wpP.of_any ?_
    k_steps
    all_goals (try k_data)
    refine k _ t _ _ _ _ _ (by assumption) ?_ At.here (by assumption) (by assumption) (by assumption)
    exact At.skip (by decide) (by assumption)
end
section
open PySem PySem.W PyProof.Rows PySem.Calls

open PySem.Builtin
theorem J_nil : J [] = #[] := rfl
theorem J_one (x : Array UInt8) : J [x] = x := by unfold J; rw [joined_cons]; rfl
theorem J_snoc {xs : List (Array UInt8)} (h : xs ≠ []) (n : Array UInt8) : J (xs ++ [n]) = J xs ++ (#[47] ++ n) := by
  cases xs with
  | nil => exact absurd rfl h
  | cons b bs =>
    unfold J
    rw [List.cons_append, joined_cons, joined_cons, List.foldl_append, List.foldl_cons, List.foldl_nil, Array.append_assoc]
theorem J_cons {xs : List (Array UInt8)} (h : xs ≠ []) (n : Array UInt8) : J (n :: xs) = n ++ (#[47] ++ J xs) := by
  cases xs with
  | nil => exact absurd rfl h
  | cons b bs =>
    apply Array.toList_inj.mp
    unfold J
    rw [joined_toList, Array.toList_append, Array.toList_append, joined_toList]
    simp
theorem J_rev : ∀ xs : List (Array UInt8), (J xs).reverse = J (xs.reverse.map Array.reverse)
  | [] => by simp [J_nil]
  | [x] => by simp [J_one]
  | x :: y :: ys => by
    rw [J_cons (by simp), Array.reverse_append, Array.reverse_append, J_rev (y :: ys), List.reverse_cons (a := x), List.map_append, List.map_singleton, J_snoc (by simp), Array.append_assoc]
    rfl
/-- of a good name's octets none is a slash -/
theorem good_at {n : Array UInt8} (h : Good n) (i : Nat) (hi : i < n.size) : n[i] ≠ 47 := h.no _ (Array.getElem_mem_toList hi)
theorem ends_good {pre n : Array UInt8} (h : Good n) : endsRaw (pre ++ n) #[47] = false := by
  have h1 := h.pos
  unfold endsRaw
  split
  · rfl
  · have hz : (pre ++ n).size - (#[47] : Array UInt8).size + (#[47] : Array UInt8).size = (pre ++ n).size := by simp; omega
    have := one_at (pre ++ n) ((pre ++ n).size - (#[47] : Array UInt8).size) (by simp; omega)
    rw [hz] at this
    rw [this]
    have e : (pre ++ n)[(pre ++ n).size - (#[47] : Array UInt8).size]'(by simp; omega) = n[n.size - 1] := by
      rw [Array.getElem_append_right (by simp; omega)]
      congr 1
      simp; omega
    rw [e]
    simpa using good_at h (n.size - 1) (by omega)
theorem starts_good {post n : Array UInt8} (h : Good n) : startsRaw (n ++ post) #[47] = false := by
  have h1 := h.pos
  unfold startsRaw
  split
  · rfl
  · have := one_at (n ++ post) 0 (by simp; omega)
    rw [this]
    rw [Array.getElem_append_left h1]
    simpa using good_at h 0 h1
theorem starts_good' {n : Array UInt8} (h : Good n) : startsRaw n #[47] = false := by
  have := starts_good (post := #[]) h
  rwa [Array.append_empty] at this
theorem snoc_of {xs : List (Array UInt8)} (h : xs ≠ []) : ∃ ys n, xs = ys ++ [n] := ⟨xs.dropLast, xs.getLast h, (List.dropLast_concat_getLast h).symm⟩
theorem J_end {xs : List (Array UInt8)} (h : xs ≠ []) (hg : ∀ x ∈ xs, Good x) : ∃ pre n, Good n ∧ J xs = pre ++ n := by
  obtain ⟨ys, n, rfl⟩ := snoc_of h
  have hn := hg n (by simp)
  by_cases hy : ys = []
  · subst hy
    exact ⟨#[], n, hn, by rw [List.nil_append, J_one]; simp⟩
  · exact ⟨J ys ++ #[47], n, hn, by rw [J_snoc hy, Array.append_assoc]⟩
theorem J_pos {xs : List (Array UInt8)} (h : xs ≠ []) (hg : ∀ x ∈ xs, Good x) : 0 < (J xs).size := by
  obtain ⟨pre, n, hn, e⟩ := J_end h hg
  rw [e, Array.size_append]
  have := hn.pos
  omega
theorem join_J {xs : List (Array UInt8)} {n : Array UInt8} (hg : ∀ x ∈ xs, Good x) (hn : Good n) : joinRaw (J xs) n = J (xs ++ [n]) := by
  unfold joinRaw
  rw [if_neg (by rw [starts_good' hn]; decide)]
  by_cases h : xs = []
  · subst h
    rw [if_pos (by rfl), List.nil_append, J_one]
  · have h1 := J_pos h hg
    rw [if_neg (by omega)]
    obtain ⟨pre, n', hn', e⟩ := J_end h hg
    rw [if_neg (by rw [e, ends_good hn']; decide), J_snoc h]
theorem path_J : ∀ (ns xs : List (Array UInt8)), (∀ x ∈ xs, Good x) → (∀ x ∈ ns, Good x) → ns.foldl joinRaw (J xs) = J (xs ++ ns)
  | [], xs, _, _ => by simp
  | n :: ns, xs, hx, hn => by
    rw [List.foldl_cons, join_J hx (hn n List.mem_cons_self), path_J ns (xs ++ [n]) (fun x h => by
      rcases List.mem_append.mp h with h | h
      · exact hx x h
      · rw [List.mem_singleton.mp h]; exact hn n List.mem_cons_self) fun x h => hn x (List.mem_cons_of_mem _ h)]
    simp
/-- the last place that passes -/
theorem last_range {f : Nat → Bool} {p : Nat} : ∀ {N : Nat}, p < N → f p = true → (∀ j, p < j → j < N → f j = false) → (List.range N).reverse.find? f = some p
  | 0, h, _, _ => by omega
  | N + 1, h, hp, hj => by
    rw [List.range_succ, List.reverse_append, List.reverse_singleton, List.singleton_append, List.find?_cons]
    by_cases e : p = N
    · subst e; rw [hp]
    · rw [hj N (by omega) (by omega)]
      exact last_range (by omega) hp fun j h1 h2 => hj j h1 (by omega)
theorem rfind_list (b : Array UInt8) (hb : 0 < b.size) : rfindRaw b #[47] = match (List.range b.size).reverse.find? (fun i => b.extract i (i + (#[47] : Array UInt8).size) == #[47]) with
  | some i => (i : Int)
  | none => -1 := by
  unfold rfindRaw
  rw [if_neg (by simp; omega)]
  show (match Bytes.rfind? b #[47] (0 : Int).toNat (b.size : Int).toNat with | some i => (i : Int) | none => -1) = _
  unfold Bytes.rfind?
  have h1 : (b.size : Int).toNat + 1 - ((0 : Int).toNat + (#[47] : Array UInt8).size) = b.size := by simp
  have h2 : (List.range b.size).map (· + (0 : Int).toNat) = List.range b.size := by simp
  rw [h1, h2]
theorem rfind_no {n : Array UInt8} (h : Good n) : rfindRaw n #[47] = -1 := by
  rw [rfind_list n h.pos, List.find?_eq_none.mpr]
  intro i hi
  have hi : i < n.size := by simpa using hi
  rw [one_at n i hi]
  simpa using good_at h i hi
theorem rfind_at {pre n : Array UInt8} (h : Good n) : rfindRaw (pre ++ (#[47] ++ n)) #[47] = pre.size := by
  have hz : (pre ++ (#[47] ++ n)).size = pre.size + (1 + n.size) := by simp; omega
  rw [rfind_list _ (by omega), last_range (p := pre.size) (by omega)]
  · rw [one_at _ _ (by omega), Array.getElem_append_right (by omega)]
    simp
  · intro j h1 h2
    rw [one_at _ _ h2, Array.getElem_append_right (by omega), Array.getElem_append_right (by simp; omega)]
    have := good_at h (j - pre.size - (#[47] : Array UInt8).size) (by simp; omega)
    simpa using this
theorem picked_to (b : Array UInt8) (k : Nat) (hk : k ≤ b.size) : KBy.picked b none (some (k : Int)) = (b.toList.take k).toArray := by
  rw [KBc.picked_eq]
  show ((b.toList.drop 0).take (clipAt b.size (k : Int) - 0)).toArray = _
  rw [clipAt_nat, Nat.min_eq_left hk]
  simp
theorem dir_J {xs : List (Array UInt8)} (hg : ∀ x ∈ xs, Good x) : dirRaw (J xs) = J xs.dropLast := by
  by_cases h : xs = []
  · subst h; decide +kernel
  obtain ⟨ys, n, rfl⟩ := snoc_of h
  have hn := hg n (by simp)
  have hy : ∀ x ∈ ys, Good x := fun x hx => hg x (by simp [hx])
  rw [List.dropLast_concat]
  by_cases h' : ys = []
  · subst h'
    rw [List.nil_append, J_one]
    have e : KBy.picked n none (some (rfindRaw n #[47] + 1)) = #[] := by
      rw [rfind_no hn]
      have := picked_to n 0 (Nat.zero_le _)
      simpa using this
    unfold dirRaw
    rw [e]
    rfl
  · rw [J_snoc h']
    have e : KBy.picked (J ys ++ (#[47] ++ n)) none (some (rfindRaw (J ys ++ (#[47] ++ n)) #[47] + 1)) = J ys ++ #[47] := by
      rw [rfind_at hn]
      have hz : (J ys ++ (#[47] ++ n)).size = (J ys).size + (1 + n.size) := by simp; omega
      have := picked_to (J ys ++ (#[47] ++ n)) ((J ys).size + 1) (by omega)
      rw [Int.natCast_add] at this
      rw [show ((J ys).size : Int) + 1 = ((J ys).size : Int) + ((1 : Nat) : Int) from rfl, this]
      apply Array.toList_inj.mp
      have : (J ys).size + 1 = (J ys ++ #[47]).toList.length := by simp
      rw [← Array.append_assoc, this, Array.toList_append (xs := J ys ++ #[47]), List.take_left]
    unfold dirRaw
    rw [e]
    obtain ⟨pre, n', hn', ej⟩ := J_end h' hy
    have hsz : (J ys ++ #[47]).size = (J ys).size + 1 := by simp
    obtain ⟨c, l, hc⟩ : ∃ c l, n'.toList.reverse = c :: l := by
      cases hr : n'.toList.reverse with
      | nil => exact absurd (by simpa using hr) hn'.1
      | cons c l => exact ⟨c, l, rfl⟩
    have hcm : c ∈ n'.toList := by rw [← List.mem_reverse, hc]; exact List.mem_cons_self
    have hc47 := hn'.no c hcm
    rw [if_neg (by rw [hsz]; omega), if_pos]
    · apply Array.toList_inj.mp
      show rstripRaw _ _ = _
      unfold rstripRaw
      rw [Array.toList_append, List.reverse_append, ej, Array.toList_append, List.reverse_append, hc]
      have h1 : (#[47] : Array UInt8).contains (47 : UInt8) = true := by simp
      have h2 : (#[47] : Array UInt8).contains c = false := by simpa using hc47
      show ((47 :: (c :: l ++ pre.toList.reverse)).dropWhile (#[47] : Array UInt8).contains).reverse = _
      rw [List.dropWhile_cons_of_pos h1, List.cons_append, List.dropWhile_cons_of_neg (by rw [h2]; decide), ← List.cons_append, ← hc]
      simp
    · rw [bne_iff_ne]
      intro he
      have : c ∈ (List.replicate ((J ys ++ #[47]).size : Int).toNat (47 : UInt8)).toArray.toList := by
        rw [← he, ej]
        simp only [Array.toList_append, List.mem_append]
        exact .inl (.inr hcm)
      exact hc47 (List.eq_of_mem_replicate this)
theorem dirIter_J {xs : List (Array UInt8)} (hg : ∀ x ∈ xs, Good x) : ∀ k, dirIter (J xs) k = J (xs.take (xs.length - k))
  | 0 => by simp [dirIter]
  | k + 1 => by
    rw [dirIter, dirIter_J hg k, dir_J fun x hx => hg x (List.mem_of_mem_take hx), List.dropLast_eq_take, List.take_take, List.length_take, Nat.min_eq_left (Nat.sub_le _ k), Nat.min_eq_left (Nat.sub_le _ 1), Nat.sub_sub]
theorem climb_J {xs : List (Array UInt8)} (hg : ∀ x ∈ xs, Good x) (k : Nat) : climbL (J xs) k = (List.range (k + 1)).map fun i => J (xs.take (xs.length - i)) := by
  unfold climbL
  exact List.map_congr_left fun i _ => dirIter_J hg i
theorem shared_J {xs ys : List (Array UInt8)} (hx : ∀ x ∈ xs, Good x) (hy : ∀ x ∈ ys, Good x) : sharedRaw (J xs) (J ys) = J (lcp xs ys) := by
  unfold sharedRaw
  rw [commonJ hx hy]
  rfl
theorem fold_size3 (sep : Array UInt8) : ∀ (bs : List (Array UInt8)) (b : Array UInt8), (∀ x ∈ bs, x.size ≤ 3) → (bs.foldl (fun a x => (a ++ sep) ++ x) b).size ≤ b.size + (sep.size + 3) * bs.length
  | [], b, _ => by simp
  | x :: bs, b, h => by
    rw [List.foldl_cons]
    have h1 := fold_size3 sep bs ((b ++ sep) ++ x) fun y hy => h y (List.mem_cons_of_mem _ hy)
    have h2 := h x List.mem_cons_self
    simp only [Array.size_append] at h1
    rw [List.length_cons, Nat.mul_add]
    omega
theorem joined_size3 {sep : Array UInt8} {bs : List (Array UInt8)} (h : ∀ x ∈ bs, x.size ≤ 3) : (Bytes.joined sep bs).size ≤ (sep.size + 3) * bs.length := by
  cases bs with
  | nil => simp [joined_nil]
  | cons b bs =>
    rw [joined_cons]
    have h1 := fold_size3 sep bs b fun x hx => h x (List.mem_cons_of_mem _ hx)
    have h2 := h b List.mem_cons_self
    rw [List.length_cons, Nat.mul_add]
    omega
/-- a good name of at most three octets -/
noncomputable def Name (b : Array UInt8) : Prop := Good b ∧ b.size ≤ 3
theorem Name.rev {b : Array UInt8} (h : Name b) : Name b.reverse := ⟨h.1.rev, by simpa using h.2⟩
theorem J_size {xs : List (Array UInt8)} (h : ∀ x ∈ xs, Name x) : (J xs).size ≤ 4 * xs.length := joined_size3 fun x hx => (h x hx).2
theorem parts_size {sep : Array UInt8} (hs : sep.size ≤ 3) {xs : List (Array UInt8)} (h : ∀ x ∈ xs, Name x) (hl : xs.length ≤ 100) : (Bytes.joined sep (splitRaw (J xs) #[47])).size ≤ 1000 := by
  rw [J_split fun x hx => (h x hx).1]
  split
  · exact Nat.le_trans (joined_size3 (by simp)) (by simp; omega)
  · refine Nat.le_trans (joined_size3 fun x hx => (h x hx).2) ?_
    exact Nat.le_trans (Nat.mul_le_mul (show sep.size + 3 ≤ 6 by omega) hl) (by decide)
theorem parts_start {sep : Array UInt8} {xs : List (Array UInt8)} (h : ∀ x ∈ xs, Good x) : startsRaw (Bytes.joined sep (splitRaw (J xs) #[47])) #[47] = false := by
  rw [J_split h]
  cases xs with
  | nil =>
    rw [if_pos rfl, joined_cons]
    show startsRaw #[] #[47] = false
    decide +kernel
  | cons b bs =>
    rw [if_neg (by simp)]
    have : Bytes.joined sep (b :: bs) = b ++ (bs.flatMap fun x => sep.toList ++ x.toList).toArray := by
      apply Array.toList_inj.mp
      rw [joined_toList, Array.toList_append]
    rw [this]
    exact starts_good (h b List.mem_cons_self)
/-- the number of names of a path -/
theorem size_J {xs : List (Array UInt8)} (h : ∀ x ∈ xs, Good x) : (if (J xs).size = 0 then (0 : Int) else ((splitRaw (J xs) #[47]).length : Int)) = xs.length := by
  by_cases e : xs = []
  · subst e; rfl
  · have := J_pos e h
    rw [if_neg (by omega), J_split h, if_neg e]
end
section
open PySem PySem.W PyProof.Rows PySem.Calls
set_option maxRecDepth 100000

/-- values that are names, eight at most -/
noncomputable def NamesAre (vs : List PySem.Value) (bs : List (Array UInt8)) : Prop := BytesAre vs bs ∧ (∀ b ∈ bs, Name b) ∧ bs.length ≤ 8
theorem NamesAre.len {vs : List PySem.Value} {bs : List (Array UInt8)} (h : NamesAre vs bs) : vs.length ≤ 8 := by rw [h.1.length]; exact h.2.2
theorem NamesAre.sub {vs us : List PySem.Value} {bs cs : List (Array UInt8)} (h : NamesAre vs bs) (hB : BytesAre us cs) (hs : ∀ b ∈ cs, b ∈ bs) (hl : cs.length ≤ bs.length) : NamesAre us cs :=
  ⟨hB, fun b hb => h.2.1 b (hs b hb), Nat.le_trans hl h.2.2⟩
section
variable {prog : Program} {w : World} {A : Around} {E : PySem.Value → Shared → Prop} {s : Shared} {h₀ : Heap} {L : Addr} {m : Str → Option PySem.Value} {news : List (Addr × Obj)} {value slice : PySem.Expr}
theorem pickI_upto (vs : List PySem.Value) {x : Int} (h : 0 ≤ x) : kms_pick vs none (some x) = vs.take x.toNat := by
  have := pick_upto vs x.toNat
  rwa [Int.toNat_of_nonneg h] at this
theorem pickI_from (vs : List PySem.Value) {x : Int} (h : 0 ≤ x) : kms_pick vs (some x) none = vs.drop x.toNat := by
  have := pick_from vs x.toNat
  rwa [Int.toNat_of_nonneg h] at this
theorem pickI_both (vs : List PySem.Value) {x y : Int} (h : 0 ≤ x) (h' : 0 ≤ y) (hy : y ≤ vs.length) : kms_pick vs (some x) (some y) = (vs.take y.toNat).drop x.toNat := by
  have := pick_both vs x.toNat y.toNat (by omega)
  rwa [Int.toNat_of_nonneg h, Int.toNat_of_nonneg h'] at this
theorem slice_upN {a : Addr} {vs : List PySem.Value} {bs : List (Array UInt8)} {n : Nat} {vu : PySem.Value} {x : Int} {Q : PySem.Value → Shared → Prop} (F : Fr h₀ L s.heap m) (N : News h₀ L s.heap news) (hm : (a, listOf vs.toArray n) ∈ news) (hB : NamesAre vs bs) (pu : IsPart vu (some x)) (hx : 0 ≤ x)
    (h : ∀ D h' us, NamesAre us (bs.take x.toNat) → Fr h₀ L h' m → News h₀ L h' ((D, listOf us.toArray 0) :: news) → (∀ p ∈ news, p.1 < D) → Q (.ref D) { s with heap := h' })
    (hs : subscripted slice false (.ref a) (.ref s.heap.objs.size) = operate [.ref s.heap.objs.size, .ref a] (getItem (.ref a) (.ref s.heap.objs.size)) := by with_unfolding_all rfl)
    (ht : ∀ r, letTemporaryGo value (.ref a) r = pure () := by intro _; with_unfolding_all rfl) :
    wpAny (model prog w) A (subscriptTail value slice (.ref a) (.ref s.heap.objs.size)) Q E { s with heap := s.heap.push { cls := .type "slice", data := .fields #[.none, vu, .none] } } :=
  slice_LL F N hm (by constructor) pu (by have := hB.len; omega) (fun D h' F' N' l1 => h D h' _ (by rw [pickI_upto vs hx]; exact hB.sub (hB.1.take _) (fun b hb => List.mem_of_mem_take hb) (by rw [List.length_take]; omega)) F' N' l1) hs ht
theorem slice_fromN {a : Addr} {vs : List PySem.Value} {bs : List (Array UInt8)} {n : Nat} {vl : PySem.Value} {x : Int} {Q : PySem.Value → Shared → Prop} (F : Fr h₀ L s.heap m) (N : News h₀ L s.heap news) (hm : (a, listOf vs.toArray n) ∈ news) (hB : NamesAre vs bs) (pl : IsPart vl (some x)) (hx : 0 ≤ x)
    (h : ∀ D h' us, NamesAre us (bs.drop x.toNat) → Fr h₀ L h' m → News h₀ L h' ((D, listOf us.toArray 0) :: news) → (∀ p ∈ news, p.1 < D) → Q (.ref D) { s with heap := h' })
    (hs : subscripted slice false (.ref a) (.ref s.heap.objs.size) = operate [.ref s.heap.objs.size, .ref a] (getItem (.ref a) (.ref s.heap.objs.size)) := by with_unfolding_all rfl)
    (ht : ∀ r, letTemporaryGo value (.ref a) r = pure () := by intro _; with_unfolding_all rfl) :
    wpAny (model prog w) A (subscriptTail value slice (.ref a) (.ref s.heap.objs.size)) Q E { s with heap := s.heap.push { cls := .type "slice", data := .fields #[vl, .none, .none] } } :=
  slice_LL F N hm pl (by constructor) (by have := hB.len; omega) (fun D h' F' N' l1 => h D h' _ (by rw [pickI_from vs hx]; exact hB.sub (hB.1.drop _) (fun b hb => List.mem_of_mem_drop hb) (by rw [List.length_drop]; omega)) F' N' l1) hs ht
theorem slice_bothN {a : Addr} {vs : List PySem.Value} {bs : List (Array UInt8)} {n : Nat} {vl vu : PySem.Value} {x y : Int} {Q : PySem.Value → Shared → Prop} (F : Fr h₀ L s.heap m) (N : News h₀ L s.heap news) (hm : (a, listOf vs.toArray n) ∈ news) (hB : NamesAre vs bs) (pl : IsPart vl (some x)) (pu : IsPart vu (some y)) (hx : 0 ≤ x) (hy : 0 ≤ y) (hl : y ≤ bs.length)
    (h : ∀ D h' us, NamesAre us ((bs.take y.toNat).drop x.toNat) → Fr h₀ L h' m → News h₀ L h' ((D, listOf us.toArray 0) :: news) → (∀ p ∈ news, p.1 < D) → Q (.ref D) { s with heap := h' })
    (hs : subscripted slice false (.ref a) (.ref s.heap.objs.size) = operate [.ref s.heap.objs.size, .ref a] (getItem (.ref a) (.ref s.heap.objs.size)) := by with_unfolding_all rfl)
    (ht : ∀ r, letTemporaryGo value (.ref a) r = pure () := by intro _; with_unfolding_all rfl) :
    wpAny (model prog w) A (subscriptTail value slice (.ref a) (.ref s.heap.objs.size)) Q E { s with heap := s.heap.push { cls := .type "slice", data := .fields #[vl, vu, .none] } } :=
  slice_LL F N hm pl pu (by have := hB.len; omega) (fun D h' F' N' l1 => h D h' _ (by rw [pickI_both vs hx hy (by rw [hB.1.length]; exact hl)]; exact hB.sub ((hB.1.take _).drop _) (fun b hb => List.mem_of_mem_take (List.mem_of_mem_drop hb)) (by rw [List.length_drop, List.length_take]; omega)) F' N' l1) hs ht
theorem Name.le {b : Array UInt8} (h : Name b) : b.size ≤ 1000 := by have := h.2; omega
theorem join_N {a : Addr} {vs : List PySem.Value} {bs : List (Array UInt8)} {n : Nat} {t : Tok} {Q : PySem.Value → Shared → Prop} (N : News h₀ L s.heap news) (hm : (a, listOf vs.toArray n) ∈ news) (hB : NamesAre vs bs)
    (h : ∀ t' k, Q (.bytes (J bs) t') { s with toks := k }) : wpAny (model prog w) A (call (.builtin "bytes.join") [.bytes #[47] t, .ref a]) Q E s :=
  call_joinN N hm hB.1 (by decide) ⟨fun x hx => (hB.2.1 x hx).le, Nat.le_trans hB.2.2 (by decide)⟩ h
theorem eq_N {a b : Addr} {vs us : List PySem.Value} {bs cs : List (Array UInt8)} {n n2 : Nat} {Q : PySem.Value → Shared → Prop} (N : News h₀ L s.heap news) (ha : (a, listOf vs.toArray n) ∈ news) (hb : (b, listOf us.toArray n2) ∈ news) (hv : NamesAre vs bs) (hu : NamesAre us cs)
    (hr : A.units < cLine) (h : Q (.bool (decide (bs = cs))) s) : wpAny (model prog w) A (compareOp .Eq (.ref a) (.ref b)) Q E s := eq_BL hv.1 hu.1 N ha hb hr h
end
end
section
open PySem PySem.W PyProof.Rows PySem.Calls

section
variable {M : Model} {A : Around} {E : PySem.Value → Shared → Prop} {s : Shared} {h₀ : Heap} {L : Addr} {x : Str} {pos : Pos} {v : PySem.Value} {Q : PySem.Value → Shared → Prop} {news : List (Addr × Obj)} {c : Addr} {o : Obj} {scope : Scope} {cl : List (Str × Addr)} {C : Addr} {env : Env}
/-- a captured name in a comprehension -/
theorem compC_free (N : News h₀ L s.heap news) (hc : cl.lookup x = some c) (hm : (c, o) ∈ news) (hd : o.data = .cell (some v)) (h : Q v s)
    (hk : (compEnvC scope cl C env).scope.kind = .function := by rfl) (hx : (compEnvC scope cl C env).kindOf x = some .cell := by rfl) (hb : (x == ("__debug__" : Str)) = false := by decide) :
    wpAny M A (eval (.Name x pos) (compEnvC scope cl C env)) Q E s := wpAny_Name (wpAny_loadName_cell hk hx hc ⟨o, N.get hm, hd⟩ h) hb
end
section
variable {h₀ h : Heap} {L : Addr}
/-- entries by their places, and all from one place on -/
theorem News.pick (is : List Nat) (k : Nat) {l : List (Addr × Obj)} (N : News h₀ L h l) : News h₀ L h (is.filterMap (fun i => l[i]?) ++ l.drop k) := fun p hp => N p (by
  rcases List.mem_append.mp hp with hp | hp
  · obtain ⟨i, _, hi⟩ := List.mem_filterMap.mp hp
    exact List.mem_of_getElem? hi
  · exact List.mem_of_mem_drop hp)
theorem News.ins (pre : List (Addr × Obj)) {l : List (Addr × Obj)} {x : Addr × Obj} (N : News h₀ L h (pre ++ l)) (hm : x ∈ l) : News h₀ L h (pre ++ x :: l) := fun p hp => by
  rcases List.mem_append.mp hp with hp | hp
  · exact N p (List.mem_append_left _ hp)
  · rcases List.mem_cons.mp hp with rfl | hp
    · exact N _ (List.mem_append_right _ hm)
    · exact N p (List.mem_append_right _ hp)
end
end
theorem rules_L3 : True := by
  k_with_none
  k_with "m:call type:type" => (k_here; (with_reducible show wpAny _ _ (call (Value.type "type") [Value.bytes _ _]) _ _ _); (refine type_bytes ?_))
  k_with "m:call builtin:issubclass" => (k_here; (show wpAny _ _ (call (Value.builtin "issubclass") [Value.type "bytes", Value.ref _]) _ _ _); k_dflt (refine' issub_N (by (k_asm)) (by (k_mem)) ?_))
  k_with "m:mine:news" => first | assumption | (refine cb_drop (by assumption) ?_; intro p hp; repeat (first | exact hp | refine List.mem_cons_of_mem _ ?_))
  k_with "m:mine:size" => first | omega | (simp only [Array.size_append, List.size_toArray, List.length_cons, List.length_nil] at *; omega)
  k_with "m:getMethod bytes" => (k_here; (with_reducible first | refine meth FB.slot_bytes_startswith FB.type_bytes_startswith ?_ | refine meth FB.slot_bytes_endswith FB.type_bytes_endswith ?_ | refine meth slot_rfind type_rfind ?_ | refine meth slot_rstrip type_rstrip ?_ | refine meth slot_split type_split ?_ | refine meth slot_join type_join ?_))
  k_with "m:call builtin:bytes.startswith" => (k_here; (show wpAny _ _ (call (Value.builtin "bytes.startswith") [Value.bytes _ _, Value.bytes _ _]) _ _ _); (refine call_starts ?_))
  k_with "m:call builtin:bytes.endswith" => (k_here; (show wpAny _ _ (call (Value.builtin "bytes.endswith") [Value.bytes _ _, Value.bytes _ _]) _ _ _); (refine call_ends ?_))
  k_with "m:call builtin:bytes.rfind" => (k_here; (show wpAny _ _ (call (Value.builtin "bytes.rfind") [Value.bytes _ _, Value.bytes _ _]) _ _ _); (refine call_rfind ?_))
  k_with "m:call builtin:bytes.rstrip" => (k_here; (show wpAny _ _ (call (Value.builtin "bytes.rstrip") [Value.bytes _ _, Value.bytes _ _]) _ _ _); (refine call_rstrip (by walk_at "mine:size") ?_); intro _ _)
  k_with "m:truthy bytes" => (k_here; (with_reducible show wpAny _ _ (truthy (Value.bytes _ _)) _ _ _); (refine truthy_bytes (by walk_at "mine:size") ?_))
  k_with "m:call builtin:len" => (k_here; (show wpAny _ _ (call (Value.builtin "len") [Value.bytes _ _]) _ _ _); (refine len_bytes (by walk_at "mine:size") ?_))
  k_with "m:subscriptTail" => (k_here; (with_reducible show wpAny _ _ (subscriptTail _ (Expr.Slice _ _ none _) (Value.bytes _ _) (Value.ref _)) _ _ _); (with_reducible rename Fr _ _ _ _ => F'); (with_reducible rename News _ _ _ _ => N'); (refine slice_B (s := ⟨_, _, _, _, _⟩) F' N' (by constructor) (by constructor) (by walk_at "mine:size") ?_); intro _ _ _ F' N' hsz')
  k_with "m:binaryOp Mult bytes int" => (k_here; (with_reducible show wpAny _ _ (binaryOp Operator.Mult (Value.bytes _ _) (Value.int _ _)) _ _ _); (refine mul_one (by omega) (by walk_at "mine:size") ?_); intro _ _)
  k_with "m:binaryOp Add bytes bytes" => (k_here; (with_reducible show wpAny _ _ (binaryOp Operator.Add (Value.bytes _ _) (Value.bytes _ _)) _ _ _); (refine KBy.add_bytes (by walk_at "mine:size") ?_); intro _ _)
  k_with "m:compareOp NotEq bytes bytes" => (k_here; (refine ne_bytes ?_))
  k_with "m:compareOp Eq bytes bytes" => (k_here; (refine eq_bytes ?_))
  k_with "m:exec Try" => (k_here; (refine Try_calm ?_))
  k_with "m:mine:passes_own" => exact fun _ _ h => (show False from h).elim
  k_with "m:inplaceOp Add" => (k_here; (with_reducible show wpAny _ _ (inplaceOp Operator.Add (Value.bytes _ _) (Value.bytes _ _)) _ _ _); (refine iadd_bytes (by walk_at "mine:size") ?_); intro _ _)
  k_with "m:call builtin:bytes.split" => (k_here; (show wpAny _ _ (call (Value.builtin "bytes.split") [Value.bytes _ _, Value.bytes _ _]) _ _ _); k_dflt (refine' call_split1 (by (k_asm)) (by (k_asm)) (by (walk_at "mine:size")) ?_); intro l' h' vs' k' hv' hn' F' N' l1'; (try dsimp only))
  k_with "m:call builtin:len" => (k_here; (show wpAny _ _ (call (Value.builtin "len") [Value.ref _]) _ _ _); k_dflt (refine' len_L (by (k_asm)) (by (k_mem)) (by (omega)) ?_); intro _ _)
  k_with "m:mine:at" => with_reducible (first | exact At.here | assumption | exact At.skip (by decide) (by walk_at "mine:at"))
  k_with "m:eval Name" => (k_here; (with_reducible fail_if_success show wpAny _ _ (eval _ (compEnvC _ _ _ _)) _ _ _); (with_reducible fail_if_success show wpAny _ _ (eval _ (compEnv _ _ _)) _ _ _); (with_reducible fail_if_success show wpAny _ _ (eval _ (envOfC _ _ _ _ _)) _ _ _); (with_reducible rename At _ _ _ => hAt'); k_dflt (refine' ldA (by (k_asm)) (by (walk_at "mine:at")) ?_))
  k_with "m:loadName" => (k_here; (with_reducible fail_if_success show wpAny _ _ (loadName (envOfC _ _ _ _ _) _) _ _ _); (with_reducible rename At _ _ _ => hAt'); k_dflt (refine' ldnA (by (k_asm)) (by (walk_at "mine:at")) ?_))
  k_with "m:subscriptTail" => (k_here; (with_reducible show wpAny _ _ (subscriptTail _ _ (Value.ref _) (Value.int (-1) _)) _ _ _); k_dflt (refine' item_last (by (k_asm)) (by (k_mem)) ?_))
  k_with "m:mine:enterC" => (refine' code_defC (by (k_asm)) (by (k_asm)) (by (k_asm)) (by (k_asm)) (by (k_asm)) (by (exact rfl)) (by (exact rfl)) (by (assumption)) (by (k_is)) (by (k_is)) (by (ktr_room)) (by (exact BindsTo.of_eq rfl)) (by (exact rfl)) (by (decide +kernel)) ?_ (by (exact rfl)) (by (exact rfl)) (by (exact rfl)); k_whole; intro g' L' h' tk' cells' FG' F' N' Y' B' X' T' l1; (have hL9 := Lts.mk' l1; (repeat (replace hL9 := Lts.drop hL9))); (try k_lt l1); k_cells Y'; (try simp only [List.cons_append, List.nil_append] at N'); (try dsimp only); (try k_lift B'); (try k_fold))
  k_with "m:call ref" => (k_here; (with_reducible show wpAny _ _ (call (Value.ref 94) [Value.bytes _ _]) _ _ _); k_dflt (refine' Claim.use (fspath_ok _ _) (by (k_asm)) (by (k_asm)) (by (k_asm)) (by (k_asm)) (by (k_asm)) (by (first | exact rfl | assumption)) (by (ktr_room)) (by (ktr_units)) ?_); intro v h' tk' hv F' N'; subst hv; (try dsimp only); (try k_fold))
  k_with "m:call ref" => (k_here; (with_reducible show wpAny _ _ (call (Value.ref 108) [Value.bytes _ _]) _ _ _); k_dflt (refine' Claim.use (get_sep_ok _ _) (by (k_asm)) (by (k_asm)) (by (k_asm)) (by (k_asm)) (by (k_asm)) (by (first | exact rfl | assumption)) (by (ktr_room)) (by (ktr_units)) ?_); intro v h' tk' hv F' N'; (obtain ⟨t9, hv⟩ := hv); subst hv; (try dsimp only); (try k_fold))
  k_with "m:call ref" => (k_here; (with_reducible show wpAny _ _ (call (Value.ref 122) [Value.bytes _ _]) _ _ _); k_dflt (refine' Claim.use (dirname_ok _ _ (by (walk_at "mine:size"))) (by (k_asm)) (by (k_asm)) (by (k_asm)) (by (k_asm)) (by (k_asm)) (by (first | exact rfl | assumption)) (by (ktr_room)) (by (ktr_units)) ?_); intro v h' tk' hv F' N'; (obtain ⟨t9, hv⟩ := hv); subst hv; (try dsimp only); (try k_fold))
  k_with "m:call ref" => (k_here; (with_reducible show wpAny _ _ (call (Value.ref 127) [Value.ref _]) _ _ _); k_dflt (refine' common_use (by (k_asm)) (by (k_asm)) (by (k_asm)) (by (k_asm)) (by (k_asm)) (by (first | exact rfl | assumption)) (by (walk_at "mine:size")) (by (walk_at "mine:size")) (by (assumption)) (by (assumption)) (by (ktr_room)) (by (ktr_units)) ?_); intro v h' tk' hv F' N'; (obtain ⟨t9, hv⟩ := hv); subst hv; (try dsimp only); (try k_fold))
  k_with "m:eval Name" => (k_here; (with_reducible show wpAny _ _ (eval _ (envOfC _ _ _ _ _)) _ _ _); (with_reducible rename At _ _ _ => hAt'); k_dflt (refine' ldX (by (k_asm)) (by (walk_at "mine:at")) ?_ (by (rfl)) (by (rfl))))
  k_with "m:mine:k_all" => ((with_reducible rename Lts _ _ => hL8); exact Lts.ne hL8 (by omega))
  k_with "m:mine:fn" => (refine' fn_at (by (k_asm)) (by (k_asm)) (by (k_is)))
  k_with "m:mine:argument" => (refine callWith_refP (splConsP ?_); refine wpP.of_any ?_; k_steps; (all_goals (try k_data)); refine splNilP ?_; refine ⟨by walk_at "mine:fn", ?_⟩)
  k_with "m:mine:mirror" => (k_dflt (refine' ClaimP.use (cn := Str.ofString "law") (mirror_ok _ _ (by (assumption))) (by (k_asm)) (by (k_asm)) (by (k_asm)) (by (k_asm)) (by (k_asm)) (by (first | exact rfl | assumption)) (by (ktr_room)) (by (ktr_units)) ?_); (all_goals (try k_data)); intro v h' tk' hv F' N'; (obtain ⟨t9, hv⟩ := hv); subst hv; dsimp only)
  k_with "m:mine:mem" => first | k_mem | (with_reducible assumption) | (refine List.mem_cons_of_mem _ ?_; walk_at "mine:mem")
  k_with "m:subscriptTail Name Slice ref ref" => (k_here; (with_reducible show wpAny _ _ (subscriptTail _ (PySem.Expr.Slice none (some _) none _) (PySem.Value.ref _) (PySem.Value.ref _)) _ _ _); k_dflt (refine' slice_upN (s := ⟨_, _, _, _, _⟩) (by (k_asm)) (by (k_asm)) (by (walk_at "mine:mem")) (by (assumption)) (by (constructor)) (by (omega)) ?_); intro D' h' us' hU' F' N' l1'; (try dsimp only); (try k_fold))
  k_with "m:subscriptTail Name Slice ref ref" => (k_here; (with_reducible show wpAny _ _ (subscriptTail _ (PySem.Expr.Slice (some _) none none _) (PySem.Value.ref _) (PySem.Value.ref _)) _ _ _); k_dflt (refine' slice_fromN (s := ⟨_, _, _, _, _⟩) (by (k_asm)) (by (k_asm)) (by (walk_at "mine:mem")) (by (assumption)) (by (constructor)) (by (omega)) ?_); intro D' h' us' hU' F' N' l1'; (try dsimp only); (try k_fold))
  k_with "m:subscriptTail Name Slice ref ref" => (k_here; (with_reducible show wpAny _ _ (subscriptTail _ (PySem.Expr.Slice (some _) (some _) none _) (PySem.Value.ref _) (PySem.Value.ref _)) _ _ _); k_dflt (refine' slice_bothN (s := ⟨_, _, _, _, _⟩) (by (k_asm)) (by (k_asm)) (by (walk_at "mine:mem")) (by (assumption)) (by (constructor)) (by (constructor)) (by (omega)) (by (omega)) (by (omega)) ?_); intro D' h' us' hU' F' N' l1'; (try dsimp only); (try k_fold))
  k_with "m:call builtin:bytes.join" => (k_here; (show wpAny _ _ (call (PySem.Value.builtin "bytes.join") [PySem.Value.bytes _ _, PySem.Value.ref _]) _ _ _); k_dflt (refine' join_N (by (k_asm)) (by (walk_at "mine:mem")) (by (with_reducible assumption)) ?_); intro t' _; (try dsimp only))
  k_with "m:eval Name" => (k_here; (with_reducible show wpAny _ _ (eval (PySem.Expr.Name (Str.ofString "size") _) (envOfC _ _ _ _ _)) _ _ _); k_dflt (refine' nameX_C (x := Str.ofString "size") (by (k_asm)) (by (rfl)) (by (k_mem)) (by (k_asm)) ?_ (by (rfl)) (by (rfl)); k_whole))
  k_with "m:eval Name" => (k_here; (with_reducible show wpAny _ _ (eval (PySem.Expr.Name (Str.ofString "names") _) (envOfC _ _ _ _ _)) _ _ _); k_dflt (refine' nameX_C (x := Str.ofString "names") (by (k_asm)) (by (rfl)) (by (k_mem)) (by (k_asm)) ?_ (by (rfl)) (by (rfl)); k_whole))
  k_with "m:eval Name" => (k_here; (with_reducible show wpAny _ _ (eval (PySem.Expr.Name (Str.ofString "names") _) (compEnvC _ _ _ _)) _ _ _); k_dflt (refine' compC_free (x := Str.ofString "names") (by (k_asm)) (by (rfl)) (by (k_mem)) (by (k_asm)) ?_ (by (rfl)) (by (rfl)) (by (decide)); k_whole))
  k_with "m:eval Name" => (k_here; (with_reducible show wpAny _ _ (eval (PySem.Expr.Name (Str.ofString "size") _) (compEnvC _ _ _ _)) _ _ _); k_dflt (refine' compC_free (x := Str.ofString "size") (by (k_asm)) (by (rfl)) (by (k_mem)) (by (k_asm)) ?_ (by (rfl)) (by (rfl)) (by (decide)); k_whole))
  k_with "m:eval Name" => (k_here; (with_reducible show wpAny _ _ (eval (PySem.Expr.Name (Str.ofString "whole") _) (compEnvC _ _ _ _)) _ _ _); k_dflt (refine' compC_free (x := Str.ofString "whole") (by (k_asm)) (by (rfl)) (by (k_mem)) (by (k_asm)) ?_ (by (rfl)) (by (rfl)) (by (decide)); k_whole))
  k_with "m:eval Name" => (k_here; (with_reducible show wpAny _ _ (eval (PySem.Expr.Name (Str.ofString "whole") _) (envOfC _ _ _ _ _)) _ _ _); k_dflt (refine' nameX_C (x := Str.ofString "whole") (by (k_asm)) (by (rfl)) (by (k_mem)) (by (k_asm)) ?_ (by (rfl)) (by (rfl)); k_whole))
  k_with "m:mine:k_ne" => (refine neN ?_; (try dsimp only); first | assumption | (refine Ne.symm ?_; assumption))
  k_with "m:call ref" => (k_here; (with_reducible show wpAny _ _ (call (PySem.Value.ref 148) [PySem.Value.bytes _ _]) _ _ _); k_dflt (refine' ClaimL.use' (cn := Str.ofString "law") (climb_ok _ _ (by (assumption))) (by (k_asm)) (by (k_asm)) (by (k_asm)) (by (k_asm)) (by (k_asm)) (by (first | exact rfl | assumption)) (by (ktr_room)) (by (ktr_units)) ?_); intro l ws n h' tk' hv F' N' l1; (try dsimp only); (try k_fold))
  k_with "m:call ref" => (k_here; (with_reducible show wpAny _ _ (call (PySem.Value.ref 148) [PySem.Value.bytes _ _]) _ _ _); k_dflt (refine' ClaimL.use' (cn := Str.ofString "law") (climb_ok _ _ (by (assumption))) (by (k_asm)) (by (k_asm)) (by (k_asm)) (by (k_asm)) (by (k_asm)) (by (first | exact rfl | assumption)) (by (ktr_room)) (by (ktr_units)) ?_); intro l ws n h' tk' hv F' N' l1; (try dsimp only); (try k_fold))
  trivial
section
/-- mirrors of the rows so far -/
noncomputable def MirJ (nw₀ : List (Addr × Obj)) (bs : List (Array UInt8)) (i : Nat) (ys : List PySem.Value) (nw : List (Addr × Obj)) : Prop := nw = nw₀ ∧ BytesAre ys ((bs.take i).map Array.reverse)
theorem MirJ.start {nw : List (Addr × Obj)} {bs : List (Array UInt8)} : MirJ nw bs 0 [] nw := ⟨rfl, by simp; exact .nil⟩
theorem MirJ.len {nw₀ : List (Addr × Obj)} {bs : List (Array UInt8)} {i : Nat} {ys : List PySem.Value} {nw : List (Addr × Obj)} (h : MirJ nw₀ bs i ys nw) : ys.length ≤ i := by
  rw [h.2.length, List.length_map, List.length_take]; exact Nat.min_le_left _ _
theorem MirJ.next {nw₀ : List (Addr × Obj)} {bs : List (Array UInt8)} {i : Nat} {ys : List PySem.Value} {c : Array UInt8} {t : Tok} (h : MirJ nw₀ bs i ys nw₀) (hc : bs[i]? = some c) : MirJ nw₀ bs (i + 1) (ys ++ [.bytes c.reverse t]) nw₀ := by
  refine ⟨rfl, ?_⟩
  rw [List.take_add_one, hc, List.map_append]
  exact h.2.snoc
theorem MirJ.fin {nw₀ : List (Addr × Obj)} {bs : List (Array UInt8)} {vs ys : List PySem.Value} {nw : List (Addr × Obj)} (hv : BytesAre vs bs) (h : MirJ nw₀ bs vs.length ys nw) : nw = nw₀ ∧ BytesAre ys (bs.map Array.reverse) := by
  refine ⟨h.1, ?_⟩
  have := h.2
  rwa [hv.length, List.take_length] at this
theorem News.less {h₀ h : Heap} {L : Addr} {ps qs : List (Addr × Obj)} (hs : ∀ p ∈ ps, p ∈ qs) (N : News h₀ L h qs) : News h₀ L h ps := fun p hp => N p (hs p hp)
theorem climb_sizes {b c : Array UInt8} {k : Nat} (hb : b.size ≤ 1000) (h : c ∈ climbL b k) : c.size ≤ 1000 := by
  unfold climbL at h
  obtain ⟨i, _, rfl⟩ := List.mem_map.mp h
  exact Nat.le_trans (dirIter_size b i) hb
set_option maxRecDepth 100000 in
set_option maxHeartbeats 4000000 in
theorem law_s3 (w : World) (mean : ExcName → Option PySem.Value) (mg mb : Str → Option PySem.Value) (h₀ : Heap) (L fa lc ln : Addr) (cd : PySem.Value) (b : Array UInt8) (ob on o4 o5 o6 : Obj) (m : Str → Option PySem.Value) (t : Tok) (s : Shared) (Q : Flow → Shared → Prop)
    (B : Below callerA h₀ [] h₀) (X : (Mine.lawK w.params).In h₀) (T : Top Mine.hd.view_1_2 (looseW Mine.hd.view_1_2 []) mean mg mb h₀)
    (hb : b.size ≤ 1000)
    (hP : At m (Str.ofString "path") (.bytes b t)) (hC : At m (Str.ofString "climb") (.ref lc))
    (F : Fr h₀ L s.heap m) (N : News h₀ L s.heap [(lc, ob), (ln, on), (L + 1 + 1 + 1 + 1 + 1 + 1, o6), (L + 1 + 1 + 1 + 1 + 1, o5), (L + 1 + 1 + 1 + 1, o4)])
    (k : ∀ (lr : Addr) (ys : List PySem.Value) (m' : Str → Option PySem.Value) (h : Heap) (tk : Nat), BytesAre ys ((climbL b.reverse 8).map Array.reverse) → At m' (Str.ofString "climb") (.ref lc) → At m' (Str.ofString "rests") (.ref lr) →
      (∀ p ∈ [(lc, ob), (ln, on), (L + 1 + 1 + 1 + 1 + 1 + 1, o6), (L + 1 + 1 + 1 + 1 + 1, o5), (L + 1 + 1 + 1 + 1, o4)], p.1 ≠ lr) →
      Fr h₀ L h m' → News h₀ L h [(lr, lstN ys), (lc, ob), (ln, on), (L + 1 + 1 + 1 + 1 + 1 + 1, o6), (L + 1 + 1 + 1 + 1 + 1, o5), (L + 1 + 1 + 1 + 1, o4)] →
      wpP Clean (model PySem.Challenge.rw_pd0128_01.row.prog w) (callerA.deeper (envOfC (Str.ofString "law") lawScope L fa cd)) (execs (lawBody.drop 7) (envOfC (Str.ofString "law") lawScope L fa cd)) Q (fun _ _ => False) { s with heap := h, toks := tk }) :
    wpP Clean (model PySem.Challenge.rw_pd0128_01.row.prog w) (callerA.deeper (envOfC (Str.ofString "law") lawScope L fa cd)) (execs (lawBody.drop 6) (envOfC (Str.ofString "law") lawScope L fa cd)) Q (fun _ _ => False) s := by
  revert X
  k_fill
  intro X
  unfold lawBody lawScope lawRec at k ⊢
  dsimp only [List.drop] at k ⊢
  refine execsP ?_
  refine Assign_LC clean_kept (by rfl) (by with_unfolding_all rfl) rfl (by decide) ?_
  refine CallP ?_
  k_steps
  refine callWith_refP (splConsP ?_)
  refine CallP ?_
  k_steps
  walk_at "mine:argument"
  walk_at "mine:mirror"
  refine splNilP ?_
  refine ⟨by walk_at "mine:fn", ?_⟩
  have hbr : b.reverse.size ≤ 1000 := by rw [Array.size_reverse]; exact hb
  refine wpP.of_any ?_
  k_steps
  (with_reducible rename Fr _ _ _ _ => F₁)
  (with_reducible rename News _ _ _ _ => N₁)
  (with_reducible rename BytesAre _ _ => hvB)
  refine' comp_lst clean_kept rfl (by decide) rfl (by rfl) F₁ N₁ ?km ?hz (MirJ _ (climbL b.reverse 8)) ?hkeep (fun _ _ _ h => h.len) MirJ.start ?turn ?fin
  case km => k_mem
  case hz => rw [hvB.length]; unfold climbL; rw [List.length_map, List.length_range]; decide
  case hkeep =>
    rintro i ys nw ⟨rfl, _⟩
    k_mem
  case turn =>
    rintro i v ys nw hi hJ h₂ tk₂ I oI C oC D m₂ off ne hoC hm₂ F₂ N₂
    clear ne
    obtain rfl := hJ.1
    obtain ⟨c, t₂, rfl, hc⟩ := hvB.getV hi
    have hcz : c.size ≤ 1000 := climb_sizes hbr (List.mem_of_getElem? hc)
    clear F₁ N₁
    refine Tests_nil ?_
    rw [if_pos rfl]
    refine CallP ?_
    k_steps
    all_goals (try k_data)
    walk_at "mine:argument"
    walk_at "mine:mirror"
    exact CEnd.intro0 (by assumption) (by assumption) off (hJ.next hc)
  case fin =>
    intro ys nw hJ
    obtain ⟨rfl, hB⟩ := MirJ.fin hvB hJ
    refine' CFin.assignQ ?e1 ?e2 ?e3 ?_
    case e1 => rfl
    case e2 => rfl
    case e3 => rfl
    intro D h₂ tk₂ F₂ N₂ off
    refine k D ys _ _ _ hB ?_ At.here (fun p hp => off p (List.mem_cons_of_mem _ hp)) F₂ (News.less (fun p hp => ?_) N₂)
    · exact At.skip (by decide) (by assumption)
    · rcases List.mem_cons.mp hp with rfl | hp
      · exact List.mem_cons_self
      · exact List.mem_cons_of_mem _ (List.mem_cons_of_mem _ hp)
end
theorem rules_L4 : True := by
  k_with_none
  k_with "m:call type:type" => (k_here; (with_reducible show wpAny _ _ (call (Value.type "type") [Value.bytes _ _]) _ _ _); (refine type_bytes ?_))
  k_with "m:call builtin:issubclass" => (k_here; (show wpAny _ _ (call (Value.builtin "issubclass") [Value.type "bytes", Value.ref _]) _ _ _); k_dflt (refine' issub_N (by (k_asm)) (by (k_mem)) ?_))
  k_with "m:mine:news" => first | assumption | (refine cb_drop (by assumption) ?_; intro p hp; repeat (first | exact hp | refine List.mem_cons_of_mem _ ?_))
  k_with "m:mine:size" => first | omega | (simp only [Array.size_append, List.size_toArray, List.length_cons, List.length_nil] at *; omega)
  k_with "m:getMethod bytes" => (k_here; (with_reducible first | refine meth FB.slot_bytes_startswith FB.type_bytes_startswith ?_ | refine meth FB.slot_bytes_endswith FB.type_bytes_endswith ?_ | refine meth slot_rfind type_rfind ?_ | refine meth slot_rstrip type_rstrip ?_ | refine meth slot_split type_split ?_ | refine meth slot_join type_join ?_))
  k_with "m:call builtin:bytes.startswith" => (k_here; (show wpAny _ _ (call (Value.builtin "bytes.startswith") [Value.bytes _ _, Value.bytes _ _]) _ _ _); (refine call_starts ?_))
  k_with "m:call builtin:bytes.endswith" => (k_here; (show wpAny _ _ (call (Value.builtin "bytes.endswith") [Value.bytes _ _, Value.bytes _ _]) _ _ _); (refine call_ends ?_))
  k_with "m:call builtin:bytes.rfind" => (k_here; (show wpAny _ _ (call (Value.builtin "bytes.rfind") [Value.bytes _ _, Value.bytes _ _]) _ _ _); (refine call_rfind ?_))
  k_with "m:call builtin:bytes.rstrip" => (k_here; (show wpAny _ _ (call (Value.builtin "bytes.rstrip") [Value.bytes _ _, Value.bytes _ _]) _ _ _); (refine call_rstrip (by walk_at "mine:size") ?_); intro _ _)
  k_with "m:truthy bytes" => (k_here; (with_reducible show wpAny _ _ (truthy (Value.bytes _ _)) _ _ _); (refine truthy_bytes (by walk_at "mine:size") ?_))
  k_with "m:call builtin:len" => (k_here; (show wpAny _ _ (call (Value.builtin "len") [Value.bytes _ _]) _ _ _); (refine len_bytes (by walk_at "mine:size") ?_))
  k_with "m:subscriptTail" => (k_here; (with_reducible show wpAny _ _ (subscriptTail _ (Expr.Slice _ _ none _) (Value.bytes _ _) (Value.ref _)) _ _ _); (with_reducible rename Fr _ _ _ _ => F'); (with_reducible rename News _ _ _ _ => N'); (refine slice_B (s := ⟨_, _, _, _, _⟩) F' N' (by constructor) (by constructor) (by walk_at "mine:size") ?_); intro _ _ _ F' N' hsz')
  k_with "m:binaryOp Mult bytes int" => (k_here; (with_reducible show wpAny _ _ (binaryOp Operator.Mult (Value.bytes _ _) (Value.int _ _)) _ _ _); (refine mul_one (by omega) (by walk_at "mine:size") ?_); intro _ _)
  k_with "m:binaryOp Add bytes bytes" => (k_here; (with_reducible show wpAny _ _ (binaryOp Operator.Add (Value.bytes _ _) (Value.bytes _ _)) _ _ _); (refine KBy.add_bytes (by walk_at "mine:size") ?_); intro _ _)
  k_with "m:compareOp NotEq bytes bytes" => (k_here; (refine ne_bytes ?_))
  k_with "m:compareOp Eq bytes bytes" => (k_here; (refine eq_bytes ?_))
  k_with "m:exec Try" => (k_here; (refine Try_calm ?_))
  k_with "m:mine:passes_own" => exact fun _ _ h => (show False from h).elim
  k_with "m:inplaceOp Add" => (k_here; (with_reducible show wpAny _ _ (inplaceOp Operator.Add (Value.bytes _ _) (Value.bytes _ _)) _ _ _); (refine iadd_bytes (by walk_at "mine:size") ?_); intro _ _)
  k_with "m:call builtin:bytes.split" => (k_here; (show wpAny _ _ (call (Value.builtin "bytes.split") [Value.bytes _ _, Value.bytes _ _]) _ _ _); k_dflt (refine' call_split1 (by (k_asm)) (by (k_asm)) (by (walk_at "mine:size")) ?_); intro l' h' vs' k' hv' hn' F' N' l1'; (try dsimp only))
  k_with "m:call builtin:len" => (k_here; (show wpAny _ _ (call (Value.builtin "len") [Value.ref _]) _ _ _); k_dflt (refine' len_L (by (k_asm)) (by (k_mem)) (by (omega)) ?_); intro _ _)
  k_with "m:mine:at" => with_reducible (first | exact At.here | assumption | exact At.skip (by decide) (by walk_at "mine:at"))
  k_with "m:eval Name" => (k_here; (with_reducible fail_if_success show wpAny _ _ (eval _ (compEnvC _ _ _ _)) _ _ _); (with_reducible fail_if_success show wpAny _ _ (eval _ (compEnv _ _ _)) _ _ _); (with_reducible fail_if_success show wpAny _ _ (eval _ (envOfC _ _ _ _ _)) _ _ _); (with_reducible rename At _ _ _ => hAt'); k_dflt (refine' ldA (by (k_asm)) (by (walk_at "mine:at")) ?_))
  k_with "m:loadName" => (k_here; (with_reducible fail_if_success show wpAny _ _ (loadName (envOfC _ _ _ _ _) _) _ _ _); (with_reducible rename At _ _ _ => hAt'); k_dflt (refine' ldnA (by (k_asm)) (by (walk_at "mine:at")) ?_))
  k_with "m:subscriptTail" => (k_here; (with_reducible show wpAny _ _ (subscriptTail _ _ (Value.ref _) (Value.int (-1) _)) _ _ _); k_dflt (refine' item_last (by (k_asm)) (by (k_mem)) ?_))
  k_with "m:mine:enterC" => (refine' code_defC (by (k_asm)) (by (k_asm)) (by (k_asm)) (by (k_asm)) (by (k_asm)) (by (exact rfl)) (by (exact rfl)) (by (assumption)) (by (k_is)) (by (k_is)) (by (ktr_room)) (by (exact BindsTo.of_eq rfl)) (by (exact rfl)) (by (decide +kernel)) ?_ (by (exact rfl)) (by (exact rfl)) (by (exact rfl)); k_whole; intro g' L' h' tk' cells' FG' F' N' Y' B' X' T' l1; (have hL9 := Lts.mk' l1; (repeat (replace hL9 := Lts.drop hL9))); (try k_lt l1); k_cells Y'; (try simp only [List.cons_append, List.nil_append] at N'); (try dsimp only); (try k_lift B'); (try k_fold))
  k_with "m:call ref" => (k_here; (with_reducible show wpAny _ _ (call (Value.ref 94) [Value.bytes _ _]) _ _ _); k_dflt (refine' Claim.use (fspath_ok _ _) (by (k_asm)) (by (k_asm)) (by (k_asm)) (by (k_asm)) (by (k_asm)) (by (first | exact rfl | assumption)) (by (ktr_room)) (by (ktr_units)) ?_); intro v h' tk' hv F' N'; subst hv; (try dsimp only); (try k_fold))
  k_with "m:call ref" => (k_here; (with_reducible show wpAny _ _ (call (Value.ref 108) [Value.bytes _ _]) _ _ _); k_dflt (refine' Claim.use (get_sep_ok _ _) (by (k_asm)) (by (k_asm)) (by (k_asm)) (by (k_asm)) (by (k_asm)) (by (first | exact rfl | assumption)) (by (ktr_room)) (by (ktr_units)) ?_); intro v h' tk' hv F' N'; (obtain ⟨t9, hv⟩ := hv); subst hv; (try dsimp only); (try k_fold))
  k_with "m:call ref" => (k_here; (with_reducible show wpAny _ _ (call (Value.ref 122) [Value.bytes _ _]) _ _ _); k_dflt (refine' Claim.use (dirname_ok _ _ (by (walk_at "mine:size"))) (by (k_asm)) (by (k_asm)) (by (k_asm)) (by (k_asm)) (by (k_asm)) (by (first | exact rfl | assumption)) (by (ktr_room)) (by (ktr_units)) ?_); intro v h' tk' hv F' N'; (obtain ⟨t9, hv⟩ := hv); subst hv; (try dsimp only); (try k_fold))
  k_with "m:call ref" => (k_here; (with_reducible show wpAny _ _ (call (Value.ref 127) [Value.ref _]) _ _ _); k_dflt (refine' common_use (by (k_asm)) (by (k_asm)) (by (k_asm)) (by (k_asm)) (by (k_asm)) (by (first | exact rfl | assumption)) (by (walk_at "mine:size")) (by (walk_at "mine:size")) (by (assumption)) (by (assumption)) (by (ktr_room)) (by (ktr_units)) ?_); intro v h' tk' hv F' N'; (obtain ⟨t9, hv⟩ := hv); subst hv; (try dsimp only); (try k_fold))
  k_with "m:eval Name" => (k_here; (with_reducible show wpAny _ _ (eval _ (envOfC _ _ _ _ _)) _ _ _); (with_reducible rename At _ _ _ => hAt'); k_dflt (refine' ldX (by (k_asm)) (by (walk_at "mine:at")) ?_ (by (rfl)) (by (rfl))))
  k_with "m:mine:k_all" => ((with_reducible rename Lts _ _ => hL8); exact Lts.ne hL8 (by omega))
  k_with "m:mine:fn" => (refine' fn_at (by (k_asm)) (by (k_asm)) (by (k_is)))
  k_with "m:mine:argument" => (refine callWith_refP (splConsP ?_); refine wpP.of_any ?_; k_steps; (all_goals (try k_data)); refine splNilP ?_; refine ⟨by walk_at "mine:fn", ?_⟩)
  k_with "m:mine:mirror" => (k_dflt (refine' ClaimP.use (cn := Str.ofString "law") (mirror_ok _ _ (by (assumption))) (by (k_asm)) (by (k_asm)) (by (k_asm)) (by (k_asm)) (by (k_asm)) (by (first | exact rfl | assumption)) (by (ktr_room)) (by (ktr_units)) ?_); (all_goals (try k_data)); intro v h' tk' hv F' N'; (obtain ⟨t9, hv⟩ := hv); subst hv; dsimp only)
  k_with "m:mine:mem" => first | k_mem | (with_reducible assumption) | (refine List.mem_cons_of_mem _ ?_; walk_at "mine:mem")
  k_with "m:subscriptTail Name Slice ref ref" => (k_here; (with_reducible show wpAny _ _ (subscriptTail _ (PySem.Expr.Slice none (some _) none _) (PySem.Value.ref _) (PySem.Value.ref _)) _ _ _); k_dflt (refine' slice_upN (s := ⟨_, _, _, _, _⟩) (by (k_asm)) (by (k_asm)) (by (walk_at "mine:mem")) (by (assumption)) (by (constructor)) (by (omega)) ?_); intro D' h' us' hU' F' N' l1'; (try dsimp only); (try k_fold))
  k_with "m:subscriptTail Name Slice ref ref" => (k_here; (with_reducible show wpAny _ _ (subscriptTail _ (PySem.Expr.Slice (some _) none none _) (PySem.Value.ref _) (PySem.Value.ref _)) _ _ _); k_dflt (refine' slice_fromN (s := ⟨_, _, _, _, _⟩) (by (k_asm)) (by (k_asm)) (by (walk_at "mine:mem")) (by (assumption)) (by (constructor)) (by (omega)) ?_); intro D' h' us' hU' F' N' l1'; (try dsimp only); (try k_fold))
  k_with "m:subscriptTail Name Slice ref ref" => (k_here; (with_reducible show wpAny _ _ (subscriptTail _ (PySem.Expr.Slice (some _) (some _) none _) (PySem.Value.ref _) (PySem.Value.ref _)) _ _ _); k_dflt (refine' slice_bothN (s := ⟨_, _, _, _, _⟩) (by (k_asm)) (by (k_asm)) (by (walk_at "mine:mem")) (by (assumption)) (by (constructor)) (by (constructor)) (by (omega)) (by (omega)) (by (omega)) ?_); intro D' h' us' hU' F' N' l1'; (try dsimp only); (try k_fold))
  k_with "m:call builtin:bytes.join" => (k_here; (show wpAny _ _ (call (PySem.Value.builtin "bytes.join") [PySem.Value.bytes _ _, PySem.Value.ref _]) _ _ _); k_dflt (refine' join_N (by (k_asm)) (by (walk_at "mine:mem")) (by (with_reducible assumption)) ?_); intro t' _; (try dsimp only))
  k_with "m:eval Name" => (k_here; (with_reducible show wpAny _ _ (eval (PySem.Expr.Name (Str.ofString "size") _) (envOfC _ _ _ _ _)) _ _ _); k_dflt (refine' nameX_C (x := Str.ofString "size") (by (k_asm)) (by (rfl)) (by (k_mem)) (by (k_asm)) ?_ (by (rfl)) (by (rfl)); k_whole))
  k_with "m:eval Name" => (k_here; (with_reducible show wpAny _ _ (eval (PySem.Expr.Name (Str.ofString "names") _) (envOfC _ _ _ _ _)) _ _ _); k_dflt (refine' nameX_C (x := Str.ofString "names") (by (k_asm)) (by (rfl)) (by (k_mem)) (by (k_asm)) ?_ (by (rfl)) (by (rfl)); k_whole))
  k_with "m:eval Name" => (k_here; (with_reducible show wpAny _ _ (eval (PySem.Expr.Name (Str.ofString "names") _) (compEnvC _ _ _ _)) _ _ _); k_dflt (refine' compC_free (x := Str.ofString "names") (by (k_asm)) (by (rfl)) (by (k_mem)) (by (k_asm)) ?_ (by (rfl)) (by (rfl)) (by (decide)); k_whole))
  k_with "m:eval Name" => (k_here; (with_reducible show wpAny _ _ (eval (PySem.Expr.Name (Str.ofString "size") _) (compEnvC _ _ _ _)) _ _ _); k_dflt (refine' compC_free (x := Str.ofString "size") (by (k_asm)) (by (rfl)) (by (k_mem)) (by (k_asm)) ?_ (by (rfl)) (by (rfl)) (by (decide)); k_whole))
  k_with "m:eval Name" => (k_here; (with_reducible show wpAny _ _ (eval (PySem.Expr.Name (Str.ofString "whole") _) (compEnvC _ _ _ _)) _ _ _); k_dflt (refine' compC_free (x := Str.ofString "whole") (by (k_asm)) (by (rfl)) (by (k_mem)) (by (k_asm)) ?_ (by (rfl)) (by (rfl)) (by (decide)); k_whole))
  k_with "m:eval Name" => (k_here; (with_reducible show wpAny _ _ (eval (PySem.Expr.Name (Str.ofString "whole") _) (envOfC _ _ _ _ _)) _ _ _); k_dflt (refine' nameX_C (x := Str.ofString "whole") (by (k_asm)) (by (rfl)) (by (k_mem)) (by (k_asm)) ?_ (by (rfl)) (by (rfl)); k_whole))
  k_with "m:mine:k_ne" => (refine neN ?_; (try dsimp only); first | assumption | (refine Ne.symm ?_; assumption))
  k_with "m:eval ListComp" => refine Stop.go ?_
  trivial
section
/-- rows of names, joined, so far -/
noncomputable def RowJ (nw₀ : List (Addr × Obj)) (f : Nat → List (Array UInt8)) (i : Nat) (ys : List PySem.Value) (nw : List (Addr × Obj)) : Prop := nw = nw₀ ∧ BytesAre ys ((List.range i).map fun k => J (f k))
theorem RowJ.start {nw : List (Addr × Obj)} {f : Nat → List (Array UInt8)} : RowJ nw f 0 [] nw := ⟨rfl, by simp; exact .nil⟩
theorem RowJ.len {nw₀ : List (Addr × Obj)} {f : Nat → List (Array UInt8)} {i : Nat} {ys : List PySem.Value} {nw : List (Addr × Obj)} (h : RowJ nw₀ f i ys nw) : ys.length ≤ i := by
  rw [h.2.length, List.length_map, List.length_range]; exact Nat.le_refl _
theorem RowJ.next {nw₀ : List (Addr × Obj)} {f : Nat → List (Array UInt8)} {i : Nat} {ys : List PySem.Value} {bs : List (Array UInt8)} {t : Tok} (h : RowJ nw₀ f i ys nw₀) (hc : bs = f i) : RowJ nw₀ f (i + 1) (ys ++ [.bytes (J bs) t]) nw₀ := by
  refine ⟨rfl, ?_⟩
  rw [List.range_succ, List.map_append, hc]
  exact h.2.snoc
noncomputable def RowsAre (vs : List PySem.Value) (f : Nat → List (Array UInt8)) : Prop := BytesAre vs ((List.range 9).map fun k => J (f k))
set_option maxRecDepth 100000 in
set_option maxHeartbeats 4000000 in
theorem law_s4 (w : World) (mean : ExcName → Option PySem.Value) (mg mb : Str → Option PySem.Value) (h₀ : Heap) (L fa lr lc ln : Addr) (cd : PySem.Value) (yr yc yn : List PySem.Value) (ns : List (Array UInt8)) (nc : Nat) (o4 o5 o6 : Obj) (m : Str → Option PySem.Value) (s : Shared) (Q : Flow → Shared → Prop)
    (B : Below callerA h₀ [] h₀) (X : (Mine.lawK w.params).In h₀) (T : Top Mine.hd.view_1_2 (looseW Mine.hd.view_1_2 []) mean mg mb h₀)
    (hN : NamesAre yn ns) (hl : ns.length = 8) (hC : RowsAre yc fun k => ns.take (8 - k)) (hR : RowsAre yr fun k => ns.drop k) (d4 : o4.data = .cell (some (.ref ln)))
    (hc : At m (Str.ofString "climb") (.ref lc)) (hr : At m (Str.ofString "rests") (.ref lr))
    (F : Fr h₀ L s.heap m) (N : News h₀ L s.heap [(lr, lstN yr), (lc, listOf yc.toArray nc), (ln, lstN yn), (L + 1 + 1 + 1 + 1 + 1 + 1, o6), (L + 1 + 1 + 1 + 1 + 1, o5), (L + 1 + 1 + 1 + 1, o4)])
    (k : ∀ (h : Heap) (tk : Nat), Fr h₀ L h m → News h₀ L h [(lr, lstN yr), (lc, listOf yc.toArray nc), (ln, lstN yn), (L + 1 + 1 + 1 + 1 + 1 + 1, o6), (L + 1 + 1 + 1 + 1 + 1, o5), (L + 1 + 1 + 1 + 1, o4)] →
      wpP Clean (model PySem.Challenge.rw_pd0128_01.row.prog w) (callerA.deeper (envOfC (Str.ofString "law") lawScope L fa cd)) (execs (lawBody.drop 8) (envOfC (Str.ofString "law") lawScope L fa cd)) Q (fun _ _ => False) { s with heap := h, toks := tk }) :
    wpP Clean (model PySem.Challenge.rw_pd0128_01.row.prog w) (callerA.deeper (envOfC (Str.ofString "law") lawScope L fa cd)) (execs (lawBody.drop 7) (envOfC (Str.ofString "law") lawScope L fa cd)) Q (fun _ _ => False) s := by
  revert X
  k_fill
  intro X
  unfold lawBody lawScope lawRec at k ⊢
  dsimp only [List.drop] at k ⊢
  refine execsP ?_
  refine wpP.of_any ?_
  k_steps
  all_goals (try k_data)
  refine wpP.any (eval_LC every_kept (by with_unfolding_all rfl) rfl (by decide) ?src)
  refine wpP.of_any ?_
  k_steps
  all_goals (try k_data)
  refine comp_rng every_kept rfl (by decide) rfl (by rfl) (a := 0) (b := 9) (c := 1) (n := 9) rfl rfl (by assumption) (by assumption) (by assumption) (by decide) (RowJ _ fun k => ns.take (8 - k)) (fun _ _ _ h => h.len) RowJ.start ?turn ?fin
  case turn =>
    rintro i t₁ ys nw hi hJ h₂ tk₂ I oI C oC D m₂ off ne hoC hm₂ F₂ N₂
    clear ne
    obtain rfl := hJ.1
    refine Tests_nil ?_
    rw [if_pos rfl]
    refine wpP.of_any ?_
    k_steps
    all_goals (try k_data)
    exact CEnd.intro _ (by assumption) (by assumption) (fun p hp => List.mem_cons_of_mem _ hp) off (hJ.next (congrArg (fun z => ns.take z) (by omega)))
  case fin =>
    intro ys nw hJ
    obtain ⟨rfl, hB⟩ := hJ
    refine CFin.eval ?_
    intro D h₂ tk₂ F₂ N₂ off
    refine ne_BL hC hB N₂ (by k_mem) (by k_mem) (by ktr_units) ?_
    rw [decide_eq_true rfl]
    k_steps
    all_goals (try k_data)
    refine wpP.any (eval_LC every_kept (by with_unfolding_all rfl) rfl (by decide) ?_)
    refine wpP.of_any ?_
    k_steps
    all_goals (try k_data)
    refine comp_rng every_kept rfl (by decide) rfl (by rfl) (a := 0) (b := 9) (c := 1) (n := 9) rfl rfl (by assumption) (by assumption) (by assumption) (by decide) (RowJ _ fun k => ns.drop k) (fun _ _ _ h => h.len) RowJ.start ?turn2 ?fin2
    case turn2 =>
      rintro i t₁ ys nw hi hJ h₂ tk₂ I oI C oC D m₂ off ne hoC hm₂ F₂ N₂
      clear ne
      obtain rfl := hJ.1
      refine Tests_nil ?_
      rw [if_pos rfl]
      refine wpP.of_any ?_
      k_steps
      all_goals (try k_data)
      exact CEnd.intro _ (by assumption) (by assumption) (fun p hp => List.mem_cons_of_mem _ hp) off (hJ.next (congrArg (fun z => ns.drop z) (by omega)))
    case fin2 =>
      intro ys nw hJ
      obtain ⟨rfl, hB⟩ := hJ
      refine CFin.eval ?_
      intro D h₂ tk₂ F₂ N₂ off
      refine ne_BL hR hB N₂ (by k_mem) (by k_mem) (by ktr_units) ?_
      rw [decide_eq_true rfl]
      k_steps
      all_goals (try k_data)
      exact k _ _ F₂ (News.less (fun p hp => List.mem_cons_of_mem _ (List.mem_cons_of_mem _ hp)) N₂)
end
theorem rules_L5 : True := by
  k_with_none
  k_with "m:call type:type" => (k_here; (with_reducible show wpAny _ _ (call (Value.type "type") [Value.bytes _ _]) _ _ _); (refine type_bytes ?_))
  k_with "m:call builtin:issubclass" => (k_here; (show wpAny _ _ (call (Value.builtin "issubclass") [Value.type "bytes", Value.ref _]) _ _ _); k_dflt (refine' issub_N (by (k_asm)) (by (k_mem)) ?_))
  k_with "m:mine:news" => first | assumption | (refine cb_drop (by assumption) ?_; intro p hp; repeat (first | exact hp | refine List.mem_cons_of_mem _ ?_))
  k_with "m:mine:size" => first | omega | (simp only [Array.size_append, List.size_toArray, List.length_cons, List.length_nil] at *; omega)
  k_with "m:getMethod bytes" => (k_here; (with_reducible first | refine meth FB.slot_bytes_startswith FB.type_bytes_startswith ?_ | refine meth FB.slot_bytes_endswith FB.type_bytes_endswith ?_ | refine meth slot_rfind type_rfind ?_ | refine meth slot_rstrip type_rstrip ?_ | refine meth slot_split type_split ?_ | refine meth slot_join type_join ?_))
  k_with "m:call builtin:bytes.startswith" => (k_here; (show wpAny _ _ (call (Value.builtin "bytes.startswith") [Value.bytes _ _, Value.bytes _ _]) _ _ _); (refine call_starts ?_))
  k_with "m:call builtin:bytes.endswith" => (k_here; (show wpAny _ _ (call (Value.builtin "bytes.endswith") [Value.bytes _ _, Value.bytes _ _]) _ _ _); (refine call_ends ?_))
  k_with "m:call builtin:bytes.rfind" => (k_here; (show wpAny _ _ (call (Value.builtin "bytes.rfind") [Value.bytes _ _, Value.bytes _ _]) _ _ _); (refine call_rfind ?_))
  k_with "m:call builtin:bytes.rstrip" => (k_here; (show wpAny _ _ (call (Value.builtin "bytes.rstrip") [Value.bytes _ _, Value.bytes _ _]) _ _ _); (refine call_rstrip (by walk_at "mine:size") ?_); intro _ _)
  k_with "m:truthy bytes" => (k_here; (with_reducible show wpAny _ _ (truthy (Value.bytes _ _)) _ _ _); (refine truthy_bytes (by walk_at "mine:size") ?_))
  k_with "m:call builtin:len" => (k_here; (show wpAny _ _ (call (Value.builtin "len") [Value.bytes _ _]) _ _ _); (refine len_bytes (by walk_at "mine:size") ?_))
  k_with "m:subscriptTail" => (k_here; (with_reducible show wpAny _ _ (subscriptTail _ (Expr.Slice _ _ none _) (Value.bytes _ _) (Value.ref _)) _ _ _); (with_reducible rename Fr _ _ _ _ => F'); (with_reducible rename News _ _ _ _ => N'); (refine slice_B (s := ⟨_, _, _, _, _⟩) F' N' (by constructor) (by constructor) (by walk_at "mine:size") ?_); intro _ _ _ F' N' hsz')
  k_with "m:binaryOp Mult bytes int" => (k_here; (with_reducible show wpAny _ _ (binaryOp Operator.Mult (Value.bytes _ _) (Value.int _ _)) _ _ _); (refine mul_one (by omega) (by walk_at "mine:size") ?_); intro _ _)
  k_with "m:binaryOp Add bytes bytes" => (k_here; (with_reducible show wpAny _ _ (binaryOp Operator.Add (Value.bytes _ _) (Value.bytes _ _)) _ _ _); (refine KBy.add_bytes (by walk_at "mine:size") ?_); intro _ _)
  k_with "m:compareOp NotEq bytes bytes" => (k_here; (refine ne_bytes ?_))
  k_with "m:compareOp Eq bytes bytes" => (k_here; (refine eq_bytes ?_))
  k_with "m:exec Try" => (k_here; (refine Try_calm ?_))
  k_with "m:mine:passes_own" => exact fun _ _ h => (show False from h).elim
  k_with "m:inplaceOp Add" => (k_here; (with_reducible show wpAny _ _ (inplaceOp Operator.Add (Value.bytes _ _) (Value.bytes _ _)) _ _ _); (refine iadd_bytes (by walk_at "mine:size") ?_); intro _ _)
  k_with "m:call builtin:bytes.split" => (k_here; (show wpAny _ _ (call (Value.builtin "bytes.split") [Value.bytes _ _, Value.bytes _ _]) _ _ _); k_dflt (refine' call_split1 (by (k_asm)) (by (k_asm)) (by (walk_at "mine:size")) ?_); intro l' h' vs' k' hv' hn' F' N' l1'; (try dsimp only))
  k_with "m:call builtin:len" => (k_here; (show wpAny _ _ (call (Value.builtin "len") [Value.ref _]) _ _ _); k_dflt (refine' len_L (by (k_asm)) (by (k_mem)) (by (omega)) ?_); intro _ _)
  k_with "m:mine:at" => with_reducible (first | exact At.here | assumption | exact At.skip (by decide) (by walk_at "mine:at"))
  k_with "m:eval Name" => (k_here; (with_reducible fail_if_success show wpAny _ _ (eval _ (compEnvC _ _ _ _)) _ _ _); (with_reducible fail_if_success show wpAny _ _ (eval _ (compEnv _ _ _)) _ _ _); (with_reducible fail_if_success show wpAny _ _ (eval _ (envOfC _ _ _ _ _)) _ _ _); (with_reducible rename At _ _ _ => hAt'); k_dflt (refine' ldA (by (k_asm)) (by (walk_at "mine:at")) ?_))
  k_with "m:loadName" => (k_here; (with_reducible fail_if_success show wpAny _ _ (loadName (envOfC _ _ _ _ _) _) _ _ _); (with_reducible rename At _ _ _ => hAt'); k_dflt (refine' ldnA (by (k_asm)) (by (walk_at "mine:at")) ?_))
  k_with "m:subscriptTail" => (k_here; (with_reducible show wpAny _ _ (subscriptTail _ _ (Value.ref _) (Value.int (-1) _)) _ _ _); k_dflt (refine' item_last (by (k_asm)) (by (k_mem)) ?_))
  k_with "m:mine:enterC" => (refine' code_defC (by (k_asm)) (by (k_asm)) (by (k_asm)) (by (k_asm)) (by (k_asm)) (by (exact rfl)) (by (exact rfl)) (by (assumption)) (by (k_is)) (by (k_is)) (by (ktr_room)) (by (exact BindsTo.of_eq rfl)) (by (exact rfl)) (by (decide +kernel)) ?_ (by (exact rfl)) (by (exact rfl)) (by (exact rfl)); k_whole; intro g' L' h' tk' cells' FG' F' N' Y' B' X' T' l1; (have hL9 := Lts.mk' l1; (repeat (replace hL9 := Lts.drop hL9))); (try k_lt l1); k_cells Y'; (try simp only [List.cons_append, List.nil_append] at N'); (try dsimp only); (try k_lift B'); (try k_fold))
  k_with "m:call ref" => (k_here; (with_reducible show wpAny _ _ (call (Value.ref 94) [Value.bytes _ _]) _ _ _); k_dflt (refine' Claim.use (fspath_ok _ _) (by (k_asm)) (by (k_asm)) (by (k_asm)) (by (k_asm)) (by (k_asm)) (by (first | exact rfl | assumption)) (by (ktr_room)) (by (ktr_units)) ?_); intro v h' tk' hv F' N'; subst hv; (try dsimp only); (try k_fold))
  k_with "m:call ref" => (k_here; (with_reducible show wpAny _ _ (call (Value.ref 108) [Value.bytes _ _]) _ _ _); k_dflt (refine' Claim.use (get_sep_ok _ _) (by (k_asm)) (by (k_asm)) (by (k_asm)) (by (k_asm)) (by (k_asm)) (by (first | exact rfl | assumption)) (by (ktr_room)) (by (ktr_units)) ?_); intro v h' tk' hv F' N'; (obtain ⟨t9, hv⟩ := hv); subst hv; (try dsimp only); (try k_fold))
  k_with "m:call ref" => (k_here; (with_reducible show wpAny _ _ (call (Value.ref 122) [Value.bytes _ _]) _ _ _); k_dflt (refine' Claim.use (dirname_ok _ _ (by (walk_at "mine:size"))) (by (k_asm)) (by (k_asm)) (by (k_asm)) (by (k_asm)) (by (k_asm)) (by (first | exact rfl | assumption)) (by (ktr_room)) (by (ktr_units)) ?_); intro v h' tk' hv F' N'; (obtain ⟨t9, hv⟩ := hv); subst hv; (try dsimp only); (try k_fold))
  k_with "m:call ref" => (k_here; (with_reducible show wpAny _ _ (call (Value.ref 127) [Value.ref _]) _ _ _); k_dflt (refine' common_use (by (k_asm)) (by (k_asm)) (by (k_asm)) (by (k_asm)) (by (k_asm)) (by (first | exact rfl | assumption)) (by (walk_at "mine:size")) (by (walk_at "mine:size")) (by (assumption)) (by (assumption)) (by (ktr_room)) (by (ktr_units)) ?_); intro v h' tk' hv F' N'; (obtain ⟨t9, hv⟩ := hv); subst hv; (try dsimp only); (try k_fold))
  k_with "m:eval Name" => (k_here; (with_reducible show wpAny _ _ (eval _ (envOfC _ _ _ _ _)) _ _ _); (with_reducible rename At _ _ _ => hAt'); k_dflt (refine' ldX (by (k_asm)) (by (walk_at "mine:at")) ?_ (by (rfl)) (by (rfl))))
  k_with "m:mine:k_all" => ((with_reducible rename Lts _ _ => hL8); exact Lts.ne hL8 (by omega))
  k_with "m:mine:fn" => (refine' fn_at (by (k_asm)) (by (k_asm)) (by (k_is)))
  k_with "m:mine:argument" => (refine callWith_refP (splConsP ?_); refine wpP.of_any ?_; k_steps; (all_goals (try k_data)); refine splNilP ?_; refine ⟨by walk_at "mine:fn", ?_⟩)
  k_with "m:mine:mirror" => (k_dflt (refine' ClaimP.use (cn := Str.ofString "law") (mirror_ok _ _ (by (assumption))) (by (k_asm)) (by (k_asm)) (by (k_asm)) (by (k_asm)) (by (k_asm)) (by (first | exact rfl | assumption)) (by (ktr_room)) (by (ktr_units)) ?_); (all_goals (try k_data)); intro v h' tk' hv F' N'; (obtain ⟨t9, hv⟩ := hv); subst hv; dsimp only)
  k_with "m:mine:mem" => first | k_mem | (with_reducible assumption) | (refine List.mem_cons_of_mem _ ?_; walk_at "mine:mem")
  k_with "m:subscriptTail Name Slice ref ref" => (k_here; (with_reducible show wpAny _ _ (subscriptTail _ (PySem.Expr.Slice none (some _) none _) (PySem.Value.ref _) (PySem.Value.ref _)) _ _ _); k_dflt (refine' slice_upN (s := ⟨_, _, _, _, _⟩) (by (k_asm)) (by (k_asm)) (by (walk_at "mine:mem")) (by (assumption)) (by (constructor)) (by (omega)) ?_); intro D' h' us' hU' F' N' l1'; (try dsimp only); (try k_fold))
  k_with "m:subscriptTail Name Slice ref ref" => (k_here; (with_reducible show wpAny _ _ (subscriptTail _ (PySem.Expr.Slice (some _) none none _) (PySem.Value.ref _) (PySem.Value.ref _)) _ _ _); k_dflt (refine' slice_fromN (s := ⟨_, _, _, _, _⟩) (by (k_asm)) (by (k_asm)) (by (walk_at "mine:mem")) (by (assumption)) (by (constructor)) (by (omega)) ?_); intro D' h' us' hU' F' N' l1'; (try dsimp only); (try k_fold))
  k_with "m:subscriptTail Name Slice ref ref" => (k_here; (with_reducible show wpAny _ _ (subscriptTail _ (PySem.Expr.Slice (some _) (some _) none _) (PySem.Value.ref _) (PySem.Value.ref _)) _ _ _); k_dflt (refine' slice_bothN (s := ⟨_, _, _, _, _⟩) (by (k_asm)) (by (k_asm)) (by (walk_at "mine:mem")) (by (assumption)) (by (constructor)) (by (constructor)) (by (omega)) (by (omega)) (by (omega)) ?_); intro D' h' us' hU' F' N' l1'; (try dsimp only); (try k_fold))
  k_with "m:call builtin:bytes.join" => (k_here; (show wpAny _ _ (call (PySem.Value.builtin "bytes.join") [PySem.Value.bytes _ _, PySem.Value.ref _]) _ _ _); k_dflt (refine' join_N (by (k_asm)) (by (walk_at "mine:mem")) (by (with_reducible assumption)) ?_); intro t' _; (try dsimp only))
  k_with "m:eval Name" => (k_here; (with_reducible show wpAny _ _ (eval (PySem.Expr.Name (Str.ofString "size") _) (envOfC _ _ _ _ _)) _ _ _); k_dflt (refine' nameX_C (x := Str.ofString "size") (by (k_asm)) (by (rfl)) (by (k_mem)) (by (k_asm)) ?_ (by (rfl)) (by (rfl)); k_whole))
  k_with "m:eval Name" => (k_here; (with_reducible show wpAny _ _ (eval (PySem.Expr.Name (Str.ofString "names") _) (envOfC _ _ _ _ _)) _ _ _); k_dflt (refine' nameX_C (x := Str.ofString "names") (by (k_asm)) (by (rfl)) (by (k_mem)) (by (k_asm)) ?_ (by (rfl)) (by (rfl)); k_whole))
  k_with "m:eval Name" => (k_here; (with_reducible show wpAny _ _ (eval (PySem.Expr.Name (Str.ofString "names") _) (compEnvC _ _ _ _)) _ _ _); k_dflt (refine' compC_free (x := Str.ofString "names") (by (k_asm)) (by (rfl)) (by (k_mem)) (by (k_asm)) ?_ (by (rfl)) (by (rfl)) (by (decide)); k_whole))
  k_with "m:eval Name" => (k_here; (with_reducible show wpAny _ _ (eval (PySem.Expr.Name (Str.ofString "size") _) (compEnvC _ _ _ _)) _ _ _); k_dflt (refine' compC_free (x := Str.ofString "size") (by (k_asm)) (by (rfl)) (by (k_mem)) (by (k_asm)) ?_ (by (rfl)) (by (rfl)) (by (decide)); k_whole))
  k_with "m:eval Name" => (k_here; (with_reducible show wpAny _ _ (eval (PySem.Expr.Name (Str.ofString "whole") _) (compEnvC _ _ _ _)) _ _ _); k_dflt (refine' compC_free (x := Str.ofString "whole") (by (k_asm)) (by (rfl)) (by (k_mem)) (by (k_asm)) ?_ (by (rfl)) (by (rfl)) (by (decide)); k_whole))
  k_with "m:eval Name" => (k_here; (with_reducible show wpAny _ _ (eval (PySem.Expr.Name (Str.ofString "whole") _) (envOfC _ _ _ _ _)) _ _ _); k_dflt (refine' nameX_C (x := Str.ofString "whole") (by (k_asm)) (by (rfl)) (by (k_mem)) (by (k_asm)) ?_ (by (rfl)) (by (rfl)); k_whole))
  k_with "m:mine:k_ne" => (refine neN ?_; (try dsimp only); first | assumption | (refine Ne.symm ?_; assumption))
  k_with "m:eval ListComp" => refine Stop.go ?_
  k_with "m:subscriptTail Name Slice ref ref" => (k_here; (with_reducible show wpAny _ _ (subscriptTail _ (PySem.Expr.Slice none none (some _) _) (PySem.Value.ref _) (PySem.Value.ref _)) _ _ _); k_dflt (refine' slice_back (s := ⟨_, _, _, _, _⟩) (by (k_asm)) (by (k_asm)) (by (walk_at "mine:mem")) (by (constructor)) (by (walk_at "mine:rowz")) ?_); intro D' h' F' N' l1'; (try dsimp only); (try k_fold))
  k_with "m:mine:rowz" => exact RowsAre.small (by assumption)
  trivial
section
/-- the fronts' rows -/
noncomputable def frontF (ns : List (Array UInt8)) (k : Nat) : List (Array UInt8) := (ns.take k).reverse.map Array.reverse
theorem RowsAre.small {vs : List PySem.Value} {f : Nat → List (Array UInt8)} (h : RowsAre vs f) : vs.length ≤ 1000000 := by
  have := BytesAre.length h
  rw [this, List.length_map, List.length_range]; decide
theorem RowsAre.size {f : Nat → List (Array UInt8)} (hf : ∀ k, (∀ b ∈ f k, Name b) ∧ (f k).length ≤ 8) {c : Array UInt8} (h : c ∈ ((List.range 9).map fun k => J (f k)).reverse) : c.size ≤ 1000 := by
  rw [List.mem_reverse] at h
  obtain ⟨i, _, rfl⟩ := List.mem_map.mp h
  have := J_size (hf i).1
  have := (hf i).2
  omega
theorem fronts_eq (ns : List (Array UInt8)) : (((List.range 9).map fun k => J (ns.take (8 - k))).reverse.map Array.reverse) = (List.range 9).map fun k => J (frontF ns k) := by
  have : List.range 9 = [0, 1, 2, 3, 4, 5, 6, 7, 8] := by decide
  rw [this]
  simp only [List.map_cons, List.map_nil, List.reverse_cons, List.reverse_nil, List.nil_append, List.cons_append, J_rev, frontF, Nat.sub_zero, Nat.sub_self, Nat.reduceSub]
set_option maxRecDepth 100000 in
set_option maxHeartbeats 4000000 in
theorem law_s5 (w : World) (mean : ExcName → Option PySem.Value) (mg mb : Str → Option PySem.Value) (h₀ : Heap) (L fa lr lc ln : Addr) (cd : PySem.Value) (yc : List PySem.Value) (ns : List (Array UInt8)) (nc : Nat) (oR oN o4 o5 o6 : Obj) (m : Str → Option PySem.Value) (s : Shared) (Q : Flow → Shared → Prop)
    (B : Below callerA h₀ [] h₀) (X : (Mine.lawK w.params).In h₀) (T : Top Mine.hd.view_1_2 (looseW Mine.hd.view_1_2 []) mean mg mb h₀)
    (hN : ∀ b ∈ ns, Name b) (hC : RowsAre yc fun k => ns.take (8 - k)) (hl : ns.length = 8)
    (hc : At m (Str.ofString "climb") (.ref lc)) (hr : At m (Str.ofString "rests") (.ref lr))
    (F : Fr h₀ L s.heap m) (N : News h₀ L s.heap [(lr, oR), (lc, listOf yc.toArray nc), (ln, oN), (L + 1 + 1 + 1 + 1 + 1 + 1, o6), (L + 1 + 1 + 1 + 1 + 1, o5), (L + 1 + 1 + 1 + 1, o4)])
    (k : ∀ (lf lo lu : Addr) (yf : List PySem.Value) (m' : Str → Option PySem.Value) (h : Heap) (tk : Nat), RowsAre yf (frontF ns) → At m' (Str.ofString "rests") (.ref lr) → At m' (Str.ofString "fronts") (.ref lf) → At m' (Str.ofString "found") (.ref lo) → At m' (Str.ofString "due") (.ref lu) →
      (∀ p ∈ [(lf, lstN yf), (lr, oR), (ln, oN), (L + 1 + 1 + 1 + 1 + 1 + 1, o6), (L + 1 + 1 + 1 + 1 + 1, o5), (L + 1 + 1 + 1 + 1, o4)], p.1 ≠ lo) →
      (∀ p ∈ [(lf, lstN yf), (lr, oR), (ln, oN), (L + 1 + 1 + 1 + 1 + 1 + 1, o6), (L + 1 + 1 + 1 + 1 + 1, o5), (L + 1 + 1 + 1 + 1, o4)], p.1 ≠ lu) → lu ≠ lo → (∀ p ∈ [(lr, oR), (ln, oN), (L + 1 + 1 + 1 + 1 + 1 + 1, o6), (L + 1 + 1 + 1 + 1 + 1, o5), (L + 1 + 1 + 1 + 1, o4)], p.1 ≠ lf) →
      Fr h₀ L h m' → News h₀ L h [(lu, lstN []), (lo, lstN []), (lf, lstN yf), (lr, oR), (ln, oN), (L + 1 + 1 + 1 + 1 + 1 + 1, o6), (L + 1 + 1 + 1 + 1 + 1, o5), (L + 1 + 1 + 1 + 1, o4)] →
      wpP Clean (model PySem.Challenge.rw_pd0128_01.row.prog w) (callerA.deeper (envOfC (Str.ofString "law") lawScope L fa cd)) (execs (lawBody.drop 11) (envOfC (Str.ofString "law") lawScope L fa cd)) Q (fun _ _ => False) { s with heap := h, toks := tk }) :
    wpP Clean (model PySem.Challenge.rw_pd0128_01.row.prog w) (callerA.deeper (envOfC (Str.ofString "law") lawScope L fa cd)) (execs (lawBody.drop 8) (envOfC (Str.ofString "law") lawScope L fa cd)) Q (fun _ _ => False) s := by
  revert X
  k_fill
  intro X
  unfold lawBody lawScope lawRec at k ⊢
  dsimp only [List.drop] at k ⊢
  have hz : ∀ c, c ∈ ((List.range 9).map fun k => J (ns.take (8 - k))).reverse → c.size ≤ 1000 := fun c h => RowsAre.size (f := fun k => ns.take (8 - k)) (fun k => ⟨fun b hb => hN b (List.mem_of_mem_take hb), by rw [List.length_take]; omega⟩) h
  have hCr : BytesAre yc.reverse ((List.range 9).map fun k => J (ns.take (8 - k))).reverse := BytesAre.rev hC
  refine execsP ?_
  refine Assign_LC clean_kept (by rfl) (by with_unfolding_all rfl) rfl (by decide) ?_
  refine wpP.of_any ?_
  k_steps
  all_goals (try k_data)
  (with_reducible rename Fr _ _ _ _ => F₁)
  (with_reducible rename News _ _ _ _ => N₁)
  refine' comp_lst clean_kept rfl (by decide) rfl (by rfl) F₁ N₁ ?km ?hz (MirJ _ ((List.range 9).map fun k => J (ns.take (8 - k))).reverse) ?hkeep (fun _ _ _ h => h.len) MirJ.start ?turn ?fin
  case km => k_mem
  case hz => rw [List.length_reverse]; exact RowsAre.small hC
  case hkeep =>
    rintro i ys nw ⟨rfl, _⟩
    k_mem
  case turn =>
    rintro i v ys nw hi hJ h₂ tk₂ I oI C oC D m₂ off ne hoC hm₂ F₂ N₂
    clear ne
    obtain rfl := hJ.1
    obtain ⟨c, t₂, rfl, hc⟩ := hCr.getV hi
    have hcz : c.size ≤ 1000 := hz c (List.mem_of_getElem? hc)
    clear F₁ N₁
    refine Tests_nil ?_
    rw [if_pos rfl]
    refine CallP ?_
    k_steps
    all_goals (try k_data)
    walk_at "mine:argument"
    walk_at "mine:mirror"
    exact CEnd.intro0 (by assumption) (by assumption) off (hJ.next hc)
  case fin =>
    intro ys nw hJ
    obtain ⟨rfl, hB⟩ := MirJ.fin hCr hJ
    rw [fronts_eq] at hB
    refine' CFin.assignQ ?e1 ?e2 ?e3 ?_
    case e1 => rfl
    case e2 => rfl
    case e3 => rfl
    intro D h₂ tk₂ F₂ N₂ off
    clear F₁ N₁
    refine execsP ?_
    refine wpP.of_any ?_
    k_steps
    all_goals (try k_data)
    refine execsP ?_
    refine wpP.of_any ?_
    k_steps
    all_goals (try k_data)
    refine k D _ _ ys _ _ _ hB ?_ (At.skip (by decide) (At.skip (by decide) At.here)) (At.skip (by decide) At.here) At.here ?_ ?_ ?_ ?_ (by assumption) (News.less ?_ (by assumption))
    · exact At.skip (by decide) (At.skip (by decide) (At.skip (by decide) (by assumption)))
    · simp only [List.forall_mem_cons, List.not_mem_nil, false_implies, implies_true, and_true]
      refine ⟨?_, ?_, ?_, ?_, ?_, ?_⟩ <;> (show @Ne Nat _ _) <;> omega
    · simp only [List.forall_mem_cons, List.not_mem_nil, false_implies, implies_true, and_true]
      refine ⟨?_, ?_, ?_, ?_, ?_, ?_⟩ <;> (show @Ne Nat _ _) <;> omega
    · show @Ne Nat _ _
      omega
    · intro p hp
      refine off p ?_
      simp only [List.mem_cons, List.not_mem_nil, or_false] at hp ⊢
      rcases hp with h | h | h | h | h <;> simp only [h, true_or, or_true]
    · intro p hp
      simp only [List.mem_cons, List.not_mem_nil, or_false] at hp ⊢
      rcases hp with h | h | h | h | h | h | h | h <;> simp only [h, true_or, or_true, lstN, List.length_nil]
end
section
open PySem PySem.W PyProof.Rows PySem.Calls
set_option maxRecDepth 100000

/-- names, eight at most -/
noncomputable def NL (xs : List (Array UInt8)) : Prop := (∀ b ∈ xs, Name b) ∧ xs.length ≤ 8
theorem NL.good {xs : List (Array UInt8)} (h : NL xs) : ∀ b ∈ xs, Good b := fun b hb => (h.1 b hb).1
theorem NL.drop {xs : List (Array UInt8)} (h : NL xs) (k : Nat) : NL (xs.drop k) := ⟨fun b hb => h.1 b (List.mem_of_mem_drop hb), by rw [List.length_drop]; have := h.2; omega⟩
theorem NL.front {xs : List (Array UInt8)} (h : NL xs) (k : Nat) : NL (frontF xs k) := ⟨fun b hb => by
  obtain ⟨c, hc, rfl⟩ := List.mem_map.mp hb
  exact (h.1 c (List.mem_of_mem_take (List.mem_reverse.mp hc))).rev, by
  unfold frontF; rw [List.length_map, List.length_reverse, List.length_take]; have := h.2; omega⟩
theorem NL.lcp {xs ys : List (Array UInt8)} (h : NL xs) : NL (lcp xs ys) := ⟨fun b hb => h.1 b (lcp_mem _ _ _ hb), Nat.le_trans (lcp_len _ _) h.2⟩
theorem NL.size {xs : List (Array UInt8)} (h : NL xs) : (J xs).size ≤ 100 := by
  have := J_size h.1
  have := h.2
  omega
theorem Claim.mono {D U : Nat} {f : Addr} {vs : List PySem.Value} {R R' : PySem.Value → Prop} (C : Claim D U f vs R) (h : ∀ v, R v → R' v) : Claim D U f vs R' :=
  fun w mean mg mb news dp un gd cn cs a ccd cl outer A₀ base h₀ L m s Q E B F X N T hk hd hu hret => C w mean mg mb news dp un gd cn cs a ccd cl outer A₀ base h₀ L m s Q E B F X N T hk hd hu fun v h' tk' r => hret v h' tk' (h v r)
theorem sharedJ_ok {xs ys : List (Array UInt8)} (t u : Tok) (hx : NL xs) (hy : NL ys) : Claim 7 50 155 [.bytes (J xs) t, .bytes (J ys) u] (fun v => ∃ A t', A = lcp xs ys ∧ NL A ∧ v = .bytes (J A) t') := by
  refine (shared_ok (J xs) (J ys) t u hx.size hy.size (parts_size (by decide) hx.1 (by have := hx.2; omega)) (parts_size (by decide) hy.1 (by have := hy.2; omega)) (parts_start hx.good) (parts_start hy.good)).mono ?_
  rintro v ⟨t', rfl⟩
  exact ⟨_, t', rfl, hx.lcp, by rw [shared_J hx.good hy.good]⟩
theorem sizeJ_ok {xs : List (Array UInt8)} (t : Tok) (hx : NL xs) : Claim 1 8 162 [.bytes (J xs) t] (fun v => ∃ t', v = .int ((xs.length : Nat) : Int) t') := by
  refine (size_ok (J xs) t (Nat.le_trans hx.size (by decide))).mono ?_
  rintro v ⟨t', rfl⟩
  exact ⟨t', by rw [size_J hx.good]⟩
theorem row_get {f : Nat → List (Array UInt8)} {k : Nat} (h : k ≤ 8) : ((List.range 9).map fun k => J (f k)).getD k #[] = J (f k) := by
  rw [List.getD_eq_getElem?_getD, List.getElem?_map, List.getElem?_range (by omega)]
  rfl
section
variable {prog : Program} {w : World} {A : Around} {E : PySem.Value → Shared → Prop} {s : Shared} {h₀ : Heap} {L : Addr} {m : Str → Option PySem.Value} {news : List (Addr × Obj)} {value slice : PySem.Expr} {Q : PySem.Value → Shared → Prop}
theorem item_J1 {a : Addr} {vs : List PySem.Value} {f : Nat → List (Array UInt8)} {n p : Nat} {u : Tok} (N : News h₀ L s.heap news) (hm : (a, listOf vs.toArray n) ∈ news) (hB : RowsAre vs f) (h1 : p ≤ 8) (h : ∀ t, Q (.bytes (J (f p)) t) s)
    (hs : subscripted slice false (.ref a) (.int (p : Int) u) = operate [.ref a, .int (p : Int) u] (getItem (.ref a) (.int (p : Int) u)) := by with_unfolding_all rfl) :
    wpAny (model prog w) A (subscriptTail value slice (.ref a) (.int (p : Int) u)) Q E s :=
  item_bytes N hm hB (by omega) (by rw [List.length_map, List.length_range]; omega) (by rw [List.length_map, List.length_range]; decide) (fun t => by rw [Int.toNat_natCast, row_get h1]; exact h t) hs
theorem item_J2 {a : Addr} {vs : List PySem.Value} {f : Nat → List (Array UInt8)} {n p q : Nat} {u : Tok} (N : News h₀ L s.heap news) (hm : (a, listOf vs.toArray n) ∈ news) (hB : RowsAre vs f) (h1 : p + q ≤ 8) (h : ∀ t, Q (.bytes (J (f (p + q))) t) s)
    (hs : subscripted slice false (.ref a) (.int ((p : Int) + (q : Int)) u) = operate [.ref a, .int ((p : Int) + (q : Int)) u] (getItem (.ref a) (.int ((p : Int) + (q : Int)) u)) := by with_unfolding_all rfl) :
    wpAny (model prog w) A (subscriptTail value slice (.ref a) (.int ((p : Int) + (q : Int)) u)) Q E s :=
  item_bytes N hm hB (by omega) (by rw [List.length_map, List.length_range]; omega) (by rw [List.length_map, List.length_range]; decide) (fun t => by rw [show ((p : Int) + (q : Int)).toNat = p + q by omega, row_get h1]; exact h t) hs
end
theorem rev_inj {a b : Array UInt8} (h : a.reverse = b.reverse) : a = b := by
  have := congrArg Array.reverse h
  simpa using this
theorem ahead_len {ns : List (Array UInt8)} {s p : Nat} (h : p + s ≤ ns.length) : (lcp (frontF ns p) (frontF ns (p + s))).length = bwd (bits ns s) p := bwd_lcp (fun _ _ => rev_inj) h
theorem behind_len (ns : List (Array UInt8)) (s p : Nat) : (lcp (ns.drop p) (ns.drop (p + s))).length = fwd (bits ns s) p := fwd_lcp ns s p
theorem ahead_eq {ns A : List (Array UInt8)} {s p : Nat} (h : p ≤ ns.length) (hA : A = lcp (frontF ns p) (frontF ns (p + s))) : A.length ≤ p ∧ (J A).reverse = J ((ns.take p).drop (p - A.length)) := by
  have e := lcp_take (frontF ns p) (frontF ns (p + s))
  rw [← hA] at e
  have hl : A.length ≤ p := by
    rw [hA]
    refine Nat.le_trans (lcp_len _ _) ?_
    unfold frontF
    rw [List.length_map, List.length_reverse, List.length_take]; omega
  refine ⟨hl, ?_⟩
  rw [J_rev]
  congr 1
  rw [e, List.length_take]
  have hf : (frontF ns p).length = p := by unfold frontF; rw [List.length_map, List.length_reverse, List.length_take]; omega
  rw [hf, Nat.min_eq_left hl]
  unfold frontF
  rw [← List.map_take, ← List.map_reverse, List.map_map, List.take_reverse, List.reverse_reverse, List.length_take, Nat.min_eq_left h]
  have : (Array.reverse ∘ Array.reverse : Array UInt8 → Array UInt8) = id := funext fun x => by simp
  rw [this, List.map_id]
theorem behind_eq {ns A : List (Array UInt8)} {s p : Nat} (hA : A = lcp (ns.drop p) (ns.drop (p + s))) : A.length ≤ ns.length - p ∧ J A = J ((ns.take (p + A.length)).drop p) := by
  have e := lcp_take (ns.drop p) (ns.drop (p + s))
  rw [← hA] at e
  refine ⟨?_, ?_⟩
  · rw [hA]
    refine Nat.le_trans (lcp_len _ _) ?_
    rw [List.length_drop]; exact Nat.le_refl _
  · rw [List.drop_take, Nat.add_sub_cancel_left, ← e]
theorem behind_le {ns A : List (Array UInt8)} {s p : Nat} (hA : A = lcp (ns.drop p) (ns.drop (p + s))) : A.length ≤ ns.length - (p + s) := by
  rw [hA, lcp_comm]
  refine Nat.le_trans (lcp_len _ _) ?_
  rw [List.length_drop]; exact Nat.le_refl _
/-- a stretch as a datum -/
noncomputable def d3 (t : T3) : Dat := .tuple [.int (t.1 : Int), .int (t.2.1 : Int), .int (t.2.2 : Int)]
noncomputable def d2 (t : T2) : Dat := .tuple [.int (t.1 : Int), .int (t.2 : Int)]
theorem d3_inj {a b : T3} (h : d3 a = d3 b) : a = b := by
  obtain ⟨a1, a2, a3⟩ := a
  obtain ⟨b1, b2, b3⟩ := b
  simp only [d3, Dat.tuple.injEq, List.cons.injEq, Dat.int.injEq, Int.natCast_inj, and_true] at h
  obtain ⟨rfl, rfl, rfl⟩ := h
  rfl
theorem d2_inj {a b : T2} (h : d2 a = d2 b) : a = b := by
  obtain ⟨a1, a2⟩ := a
  obtain ⟨b1, b2⟩ := b
  simp only [d2, Dat.tuple.injEq, List.cons.injEq, Dat.int.injEq, Int.natCast_inj, and_true] at h
  obtain ⟨rfl, rfl⟩ := h
  rfl
theorem d3_mem {a : T3} {l : List T3} : d3 a ∈ l.map d3 ↔ a ∈ l := ⟨fun h => by
  obtain ⟨b, hb, e⟩ := List.mem_map.mp h
  rwa [← d3_inj e], fun h => List.mem_map_of_mem h⟩
theorem d2_mem {a : T2} {l : List T2} : d2 a ∈ l.map d2 ↔ a ∈ l := ⟨fun h => by
  obtain ⟨b, hb, e⟩ := List.mem_map.mp h
  rwa [← d2_inj e], fun h => List.mem_map_of_mem h⟩
theorem d3_list {a b : List T3} (h : a.map d3 = b.map d3) : a = b := by
  induction a generalizing b with
  | nil => cases b with
    | nil => rfl
    | cons _ _ => simp at h
  | cons x xs ih => cases b with
    | nil => simp at h
    | cons y ys =>
      simp only [List.map_cons, List.cons.injEq] at h
      rw [d3_inj h.1, ih h.2]
theorem place_ok {s j : Nat} (hs : 1 ≤ s ∧ s ≤ 4) (hj : j < placesN s) : j * s + s < 8 := by
  obtain ⟨h1, h2⟩ := hs
  have : s = 1 ∨ s = 2 ∨ s = 3 ∨ s = 4 := by omega
  rcases this with rfl | rfl | rfl | rfl
  · have : placesN 1 = 7 := rfl
    omega
  · have : placesN 2 = 3 := rfl
    omega
  · have : placesN 3 = 2 := rfl
    omega
  · have : placesN 4 = 1 := rfl
    omega
theorem range_ok {s : Nat} (hs : 1 ≤ s ∧ s ≤ 4) : Builtin.Range.small 0 (8 - (s : Int)) (s : Int) = true ∧ Builtin.Range.rangeSize 0 (8 - (s : Int)) (s : Int) = ((placesN s : Nat) : Int) := by
  obtain ⟨h1, h2⟩ := hs
  have : s = 1 ∨ s = 2 ∨ s = 3 ∨ s = 4 := by omega
  rcases this with rfl | rfl | rfl | rfl <;> decide
end
theorem rules_L6 : True := by
  k_with_none
  k_with "m:call type:type" => (k_here; (with_reducible show wpAny _ _ (call (Value.type "type") [Value.bytes _ _]) _ _ _); (refine type_bytes ?_))
  k_with "m:call builtin:issubclass" => (k_here; (show wpAny _ _ (call (Value.builtin "issubclass") [Value.type "bytes", Value.ref _]) _ _ _); k_dflt (refine' issub_N (by (k_asm)) (by (k_mem)) ?_))
  k_with "m:mine:news" => first | assumption | (refine cb_drop (by assumption) ?_; intro p hp; repeat (first | exact hp | refine List.mem_cons_of_mem _ ?_))
  k_with "m:mine:size" => first | omega | (simp only [Array.size_append, List.size_toArray, List.length_cons, List.length_nil] at *; omega)
  k_with "m:getMethod bytes" => (k_here; (with_reducible first | refine meth FB.slot_bytes_startswith FB.type_bytes_startswith ?_ | refine meth FB.slot_bytes_endswith FB.type_bytes_endswith ?_ | refine meth slot_rfind type_rfind ?_ | refine meth slot_rstrip type_rstrip ?_ | refine meth slot_split type_split ?_ | refine meth slot_join type_join ?_))
  k_with "m:call builtin:bytes.startswith" => (k_here; (show wpAny _ _ (call (Value.builtin "bytes.startswith") [Value.bytes _ _, Value.bytes _ _]) _ _ _); (refine call_starts ?_))
  k_with "m:call builtin:bytes.endswith" => (k_here; (show wpAny _ _ (call (Value.builtin "bytes.endswith") [Value.bytes _ _, Value.bytes _ _]) _ _ _); (refine call_ends ?_))
  k_with "m:call builtin:bytes.rfind" => (k_here; (show wpAny _ _ (call (Value.builtin "bytes.rfind") [Value.bytes _ _, Value.bytes _ _]) _ _ _); (refine call_rfind ?_))
  k_with "m:call builtin:bytes.rstrip" => (k_here; (show wpAny _ _ (call (Value.builtin "bytes.rstrip") [Value.bytes _ _, Value.bytes _ _]) _ _ _); (refine call_rstrip (by walk_at "mine:size") ?_); intro _ _)
  k_with "m:truthy bytes" => (k_here; (with_reducible show wpAny _ _ (truthy (Value.bytes _ _)) _ _ _); (refine truthy_bytes (by walk_at "mine:size") ?_))
  k_with "m:call builtin:len" => (k_here; (show wpAny _ _ (call (Value.builtin "len") [Value.bytes _ _]) _ _ _); (refine len_bytes (by walk_at "mine:size") ?_))
  k_with "m:subscriptTail" => (k_here; (with_reducible show wpAny _ _ (subscriptTail _ (Expr.Slice _ _ none _) (Value.bytes _ _) (Value.ref _)) _ _ _); (with_reducible rename Fr _ _ _ _ => F'); (with_reducible rename News _ _ _ _ => N'); (refine slice_B (s := ⟨_, _, _, _, _⟩) F' N' (by constructor) (by constructor) (by walk_at "mine:size") ?_); intro _ _ _ F' N' hsz')
  k_with "m:binaryOp Mult bytes int" => (k_here; (with_reducible show wpAny _ _ (binaryOp Operator.Mult (Value.bytes _ _) (Value.int _ _)) _ _ _); (refine mul_one (by omega) (by walk_at "mine:size") ?_); intro _ _)
  k_with "m:binaryOp Add bytes bytes" => (k_here; (with_reducible show wpAny _ _ (binaryOp Operator.Add (Value.bytes _ _) (Value.bytes _ _)) _ _ _); (refine KBy.add_bytes (by walk_at "mine:size") ?_); intro _ _)
  k_with "m:compareOp NotEq bytes bytes" => (k_here; (refine ne_bytes ?_))
  k_with "m:compareOp Eq bytes bytes" => (k_here; (refine eq_bytes ?_))
  k_with "m:exec Try" => (k_here; (refine Try_calm ?_))
  k_with "m:mine:passes_own" => exact fun _ _ h => (show False from h).elim
  k_with "m:inplaceOp Add" => (k_here; (with_reducible show wpAny _ _ (inplaceOp Operator.Add (Value.bytes _ _) (Value.bytes _ _)) _ _ _); (refine iadd_bytes (by walk_at "mine:size") ?_); intro _ _)
  k_with "m:call builtin:bytes.split" => (k_here; (show wpAny _ _ (call (Value.builtin "bytes.split") [Value.bytes _ _, Value.bytes _ _]) _ _ _); k_dflt (refine' call_split1 (by (k_asm)) (by (k_asm)) (by (walk_at "mine:size")) ?_); intro l' h' vs' k' hv' hn' F' N' l1'; (try dsimp only))
  k_with "m:call builtin:len" => (k_here; (show wpAny _ _ (call (Value.builtin "len") [Value.ref _]) _ _ _); k_dflt (refine' len_L (by (k_asm)) (by (k_mem)) (by (omega)) ?_); intro _ _)
  k_with "m:mine:at" => with_reducible (first | exact At.here | assumption | exact At.skip (by decide) (by walk_at "mine:at"))
  k_with "m:eval Name" => (k_here; (with_reducible fail_if_success show wpAny _ _ (eval _ (compEnvC _ _ _ _)) _ _ _); (with_reducible fail_if_success show wpAny _ _ (eval _ (compEnv _ _ _)) _ _ _); (with_reducible fail_if_success show wpAny _ _ (eval _ (envOfC _ _ _ _ _)) _ _ _); (with_reducible rename At _ _ _ => hAt'); k_dflt (refine' ldA (by (k_asm)) (by (walk_at "mine:at")) ?_))
  k_with "m:loadName" => (k_here; (with_reducible fail_if_success show wpAny _ _ (loadName (envOfC _ _ _ _ _) _) _ _ _); (with_reducible rename At _ _ _ => hAt'); k_dflt (refine' ldnA (by (k_asm)) (by (walk_at "mine:at")) ?_))
  k_with "m:subscriptTail" => (k_here; (with_reducible show wpAny _ _ (subscriptTail _ _ (Value.ref _) (Value.int (-1) _)) _ _ _); k_dflt (refine' item_last (by (k_asm)) (by (k_mem)) ?_))
  k_with "m:mine:enterC" => (refine' code_defC (by (k_asm)) (by (k_asm)) (by (k_asm)) (by (k_asm)) (by (k_asm)) (by (exact rfl)) (by (exact rfl)) (by (assumption)) (by (k_is)) (by (k_is)) (by (ktr_room)) (by (exact BindsTo.of_eq rfl)) (by (exact rfl)) (by (decide +kernel)) ?_ (by (exact rfl)) (by (exact rfl)) (by (exact rfl)); k_whole; intro g' L' h' tk' cells' FG' F' N' Y' B' X' T' l1; (have hL9 := Lts.mk' l1; (repeat (replace hL9 := Lts.drop hL9))); (try k_lt l1); k_cells Y'; (try simp only [List.cons_append, List.nil_append] at N'); (try dsimp only); (try k_lift B'); (try k_fold))
  k_with "m:call ref" => (k_here; (with_reducible show wpAny _ _ (call (Value.ref 94) [Value.bytes _ _]) _ _ _); k_dflt (refine' Claim.use (fspath_ok _ _) (by (k_asm)) (by (k_asm)) (by (k_asm)) (by (k_asm)) (by (k_asm)) (by (first | exact rfl | assumption)) (by (ktr_room)) (by (ktr_units)) ?_); intro v h' tk' hv F' N'; subst hv; (try dsimp only); (try k_fold))
  k_with "m:call ref" => (k_here; (with_reducible show wpAny _ _ (call (Value.ref 108) [Value.bytes _ _]) _ _ _); k_dflt (refine' Claim.use (get_sep_ok _ _) (by (k_asm)) (by (k_asm)) (by (k_asm)) (by (k_asm)) (by (k_asm)) (by (first | exact rfl | assumption)) (by (ktr_room)) (by (ktr_units)) ?_); intro v h' tk' hv F' N'; (obtain ⟨t9, hv⟩ := hv); subst hv; (try dsimp only); (try k_fold))
  k_with "m:call ref" => (k_here; (with_reducible show wpAny _ _ (call (Value.ref 122) [Value.bytes _ _]) _ _ _); k_dflt (refine' Claim.use (dirname_ok _ _ (by (walk_at "mine:size"))) (by (k_asm)) (by (k_asm)) (by (k_asm)) (by (k_asm)) (by (k_asm)) (by (first | exact rfl | assumption)) (by (ktr_room)) (by (ktr_units)) ?_); intro v h' tk' hv F' N'; (obtain ⟨t9, hv⟩ := hv); subst hv; (try dsimp only); (try k_fold))
  k_with "m:call ref" => (k_here; (with_reducible show wpAny _ _ (call (Value.ref 127) [Value.ref _]) _ _ _); k_dflt (refine' common_use (by (k_asm)) (by (k_asm)) (by (k_asm)) (by (k_asm)) (by (k_asm)) (by (first | exact rfl | assumption)) (by (walk_at "mine:size")) (by (walk_at "mine:size")) (by (assumption)) (by (assumption)) (by (ktr_room)) (by (ktr_units)) ?_); intro v h' tk' hv F' N'; (obtain ⟨t9, hv⟩ := hv); subst hv; (try dsimp only); (try k_fold))
  k_with "m:eval Name" => (k_here; (with_reducible show wpAny _ _ (eval _ (envOfC _ _ _ _ _)) _ _ _); (with_reducible rename At _ _ _ => hAt'); k_dflt (refine' ldX (by (k_asm)) (by (walk_at "mine:at")) ?_ (by (rfl)) (by (rfl))))
  k_with "m:mine:k_all" => ((with_reducible rename Lts _ _ => hL8); exact Lts.ne hL8 (by omega))
  k_with "m:mine:fn" => (refine' fn_at (by (k_asm)) (by (k_asm)) (by (k_is)))
  k_with "m:mine:argument" => (refine callWith_refP (splConsP ?_); refine wpP.of_any ?_; k_steps; (all_goals (try k_data)); refine splNilP ?_; refine ⟨by walk_at "mine:fn", ?_⟩)
  k_with "m:mine:mirror" => (k_dflt (refine' ClaimP.use (cn := Str.ofString "law") (mirror_ok _ _ (by (assumption))) (by (k_asm)) (by (k_asm)) (by (k_asm)) (by (k_asm)) (by (k_asm)) (by (first | exact rfl | assumption)) (by (ktr_room)) (by (ktr_units)) ?_); (all_goals (try k_data)); intro v h' tk' hv F' N'; (obtain ⟨t9, hv⟩ := hv); subst hv; dsimp only)
  k_with "m:mine:mem" => first | k_mem | (with_reducible assumption) | (refine List.mem_cons_of_mem _ ?_; walk_at "mine:mem")
  k_with "m:subscriptTail Name Slice ref ref" => (k_here; (with_reducible show wpAny _ _ (subscriptTail _ (PySem.Expr.Slice none (some _) none _) (PySem.Value.ref _) (PySem.Value.ref _)) _ _ _); k_dflt (refine' slice_upN (s := ⟨_, _, _, _, _⟩) (by (k_asm)) (by (k_asm)) (by (walk_at "mine:mem")) (by (assumption)) (by (constructor)) (by (omega)) ?_); intro D' h' us' hU' F' N' l1'; (try dsimp only); (try k_fold))
  k_with "m:subscriptTail Name Slice ref ref" => (k_here; (with_reducible show wpAny _ _ (subscriptTail _ (PySem.Expr.Slice (some _) none none _) (PySem.Value.ref _) (PySem.Value.ref _)) _ _ _); k_dflt (refine' slice_fromN (s := ⟨_, _, _, _, _⟩) (by (k_asm)) (by (k_asm)) (by (walk_at "mine:mem")) (by (assumption)) (by (constructor)) (by (omega)) ?_); intro D' h' us' hU' F' N' l1'; (try dsimp only); (try k_fold))
  k_with "m:subscriptTail Name Slice ref ref" => (k_here; (with_reducible show wpAny _ _ (subscriptTail _ (PySem.Expr.Slice (some _) (some _) none _) (PySem.Value.ref _) (PySem.Value.ref _)) _ _ _); k_dflt (refine' slice_bothN (s := ⟨_, _, _, _, _⟩) (by (k_asm)) (by (k_asm)) (by (walk_at "mine:mem")) (by (assumption)) (by (constructor)) (by (constructor)) (by (omega)) (by (omega)) (by (omega)) ?_); intro D' h' us' hU' F' N' l1'; (try dsimp only); (try k_fold))
  k_with "m:call builtin:bytes.join" => (k_here; (show wpAny _ _ (call (PySem.Value.builtin "bytes.join") [PySem.Value.bytes _ _, PySem.Value.ref _]) _ _ _); k_dflt (refine' join_N (by (k_asm)) (by (walk_at "mine:mem")) (by (with_reducible assumption)) ?_); intro t' _; (try dsimp only))
  k_with "m:eval Name" => (k_here; (with_reducible show wpAny _ _ (eval (PySem.Expr.Name (Str.ofString "size") _) (envOfC _ _ _ _ _)) _ _ _); k_dflt (refine' nameX_C (x := Str.ofString "size") (by (k_asm)) (by (rfl)) (by (k_mem)) (by (k_asm)) ?_ (by (rfl)) (by (rfl)); k_whole))
  k_with "m:eval Name" => (k_here; (with_reducible show wpAny _ _ (eval (PySem.Expr.Name (Str.ofString "names") _) (envOfC _ _ _ _ _)) _ _ _); k_dflt (refine' nameX_C (x := Str.ofString "names") (by (k_asm)) (by (rfl)) (by (k_mem)) (by (k_asm)) ?_ (by (rfl)) (by (rfl)); k_whole))
  k_with "m:eval Name" => (k_here; (with_reducible show wpAny _ _ (eval (PySem.Expr.Name (Str.ofString "names") _) (compEnvC _ _ _ _)) _ _ _); k_dflt (refine' compC_free (x := Str.ofString "names") (by (k_asm)) (by (rfl)) (by (k_mem)) (by (k_asm)) ?_ (by (rfl)) (by (rfl)) (by (decide)); k_whole))
  k_with "m:eval Name" => (k_here; (with_reducible show wpAny _ _ (eval (PySem.Expr.Name (Str.ofString "size") _) (compEnvC _ _ _ _)) _ _ _); k_dflt (refine' compC_free (x := Str.ofString "size") (by (k_asm)) (by (rfl)) (by (k_mem)) (by (k_asm)) ?_ (by (rfl)) (by (rfl)) (by (decide)); k_whole))
  k_with "m:eval Name" => (k_here; (with_reducible show wpAny _ _ (eval (PySem.Expr.Name (Str.ofString "whole") _) (compEnvC _ _ _ _)) _ _ _); k_dflt (refine' compC_free (x := Str.ofString "whole") (by (k_asm)) (by (rfl)) (by (k_mem)) (by (k_asm)) ?_ (by (rfl)) (by (rfl)) (by (decide)); k_whole))
  k_with "m:eval Name" => (k_here; (with_reducible show wpAny _ _ (eval (PySem.Expr.Name (Str.ofString "whole") _) (envOfC _ _ _ _ _)) _ _ _); k_dflt (refine' nameX_C (x := Str.ofString "whole") (by (k_asm)) (by (rfl)) (by (k_mem)) (by (k_asm)) ?_ (by (rfl)) (by (rfl)); k_whole))
  k_with "m:mine:k_ne" => (refine neN ?_; (try dsimp only); first | assumption | (refine Ne.symm ?_; assumption))
  k_with "m:mine:k_all" => with_reducible assumption
  k_with "m:eval ListComp" => refine Stop.go ?_
  k_with "m:mine:NL" => first | (with_reducible assumption) | exact NL.front (by assumption) _ | exact NL.drop (by assumption) _
  k_with "m:call ref" => (k_here; (with_reducible show wpAny _ _ (call (PySem.Value.ref 155) [PySem.Value.bytes _ _, PySem.Value.bytes _ _]) _ _ _); k_dflt (refine' Claim.use (cn := Str.ofString "law") (sharedJ_ok _ _ (by (walk_at "mine:NL")) (by (walk_at "mine:NL"))) (by (k_asm)) (by (k_asm)) (by (k_asm)) (by (k_asm)) (by (k_asm)) (by (first | exact rfl | assumption)) (by (ktr_room)) (by (ktr_units)) ?_); intro v h' tk' hv F' N'; (obtain ⟨A9, t9, hA9, hNL9, hv⟩ := hv); subst hv; (try dsimp only); (try k_fold))
  k_with "m:call ref" => (k_here; (with_reducible show wpAny _ _ (call (PySem.Value.ref 162) [PySem.Value.bytes _ _]) _ _ _); k_dflt (refine' Claim.use (cn := Str.ofString "law") (sizeJ_ok _ (by (walk_at "mine:NL"))) (by (k_asm)) (by (k_asm)) (by (k_asm)) (by (k_asm)) (by (k_asm)) (by (first | exact rfl | assumption)) (by (ktr_room)) (by (ktr_units)) ?_); intro v h' tk' hv F' N'; (obtain ⟨t9, hv⟩ := hv); subst hv; (try dsimp only); (try k_fold))
  k_with "m:subscriptTail Name Name ref int" => (k_here; (with_reducible show wpAny _ _ (subscriptTail _ _ (PySem.Value.ref _) (PySem.Value.int _ _)) _ _ _); k_dflt (refine' item_J1 (by (k_asm)) (by (k_mem)) (by (with_reducible assumption)) (by (omega)) ?_); intro t9; (try dsimp only))
  k_with "m:subscriptTail Name BinOp ref int" => (k_here; (with_reducible show wpAny _ _ (subscriptTail _ _ (PySem.Value.ref _) (PySem.Value.int _ _)) _ _ _); k_dflt (refine' item_J2 (by (k_asm)) (by (k_mem)) (by (with_reducible assumption)) (by (omega)) ?_); intro t9; (try dsimp only))
  k_with "m:mine:mirror" => (k_dflt (refine' ClaimP.use (cn := Str.ofString "law") (mirror_ok _ _ (by (exact Nat.le_trans (NL.size (by assumption)) (by decide)))) (by (k_asm)) (by (k_asm)) (by (k_asm)) (by (k_asm)) (by (k_asm)) (by (first | exact rfl | assumption)) (by (ktr_room)) (by (ktr_units)) ?_); (all_goals (try k_data)); intro v h' tk' hv F' N'; (obtain ⟨t9, hv⟩ := hv); subst hv; dsimp only)
  k_with "m:compareOp NotEq ref ref" => refine Stop.go ?_
  k_with "m:compareOp NotIn" => refine Stop.go ?_
  k_with "m:call builtin:list.append" => refine Stop.go ?_
  trivial
section
theorem lt_of_allLt {d : Addr} {l : List (Addr × Obj)} (h : AllLt d l) : ∀ p ∈ l, @LT.lt Nat _ p.1 d := by
  induction l with
  | nil => intro p hp; cases hp
  | cons q r ih =>
    intro p hp
    unfold AllLt at h
    rcases List.mem_cons.mp hp with e | hp
    · rw [e]; exact h.1
    · exact ih h.2 p hp
theorem dat_head {t : Addr} {a b c : Nat} {u v x : Tok} {n : Nat} {r : List (Addr × Obj)} : DatIn ((t, { cls := .type "tuple", data := .seq #[PySem.Value.int (a : Int) u, PySem.Value.int (b : Int) v, PySem.Value.int (c : Int) x] n }) :: r) (.ref t) (d3 (a, b, c)) :=
  DatIn.tuple (vs := [PySem.Value.int (a : Int) u, PySem.Value.int (b : Int) v, PySem.Value.int (c : Int) x]) List.mem_cons_self (.cons (.int _ _) (.cons (.int _ _) (.cons (.int _ _) .nil)))
theorem News.reorder {h₀ h : Heap} {L : Addr} {a b c d e f g i j k l : Addr × Obj} {tl : List (Addr × Obj)} (N : News h₀ L h (a :: b :: c :: d :: e :: f :: g :: i :: j :: k :: l :: tl)) : News h₀ L h (b :: c :: d :: e :: f :: g :: i :: j :: k :: l :: a :: tl) := News.less (fun q hq => by
  simp only [List.mem_cons] at hq ⊢
  rcases hq with h | h | h | h | h | h | h | h | h | h | h | h <;> simp only [h, true_or, or_true]) N
theorem d3_ok (l : List T3) : ∀ d ∈ l.map d3, kqdOk 8 d = true := by
  intro d hd
  obtain ⟨x, _, rfl⟩ := List.mem_map.mp hd
  rfl
section
variable {prog : Program} {w : World} {A : Around} {E : PySem.Value → Shared → Prop} {s : Shared} {h₀ : Heap} {L a b : Addr} {news n₁ n₂ : List (Addr × Obj)} {ka kb : Nat} {xs ys : List PySem.Value} {ds es : List Dat} {x : PySem.Value} {d : Dat} {Q : PySem.Value → Shared → Prop}
open Classical in
theorem notIn_D (N : News h₀ L s.heap news) (ma : (a, listOf xs.toArray ka) ∈ news) (Da : DatAll n₁ xs ds) (sa : ∀ p ∈ n₁, p ∈ news)
    (Dx : DatIn n₂ x d) (sx : ∀ p ∈ n₂, p ∈ news) (ha : ∀ d ∈ ds, kqdOk 8 d = true) (hd : kqdOk 8 d = true) (hu : A.units + 64 < cLine) (h : ∀ b : Bool, (b = true ↔ d ∈ ds) → Q (.bool (!b)) s) : wpAny (model prog w) A (compareOp .NotIn x (.ref a)) Q E s :=
  kqd_notIn N ma rfl rfl Da sa Dx sx ha hd hu (h _ decide_eq_true_iff)
open Classical in
theorem eq_D (N : News h₀ L s.heap news) (ma : (a, listOf xs.toArray ka) ∈ news) (Da : DatAll n₁ xs ds) (sa : ∀ p ∈ n₁, p ∈ news)
    (mb : (b, listOf ys.toArray kb) ∈ news) (Db : DatAll n₂ ys es) (sb : ∀ p ∈ n₂, p ∈ news)
    (ha : ∀ d ∈ ds, kqdOk 8 d = true) (hb : ∀ d ∈ es, kqdOk 8 d = true) (hu : A.units + 64 < cLine) (h : ∀ b : Bool, (b = true ↔ ds = es) → Q (.bool b) s) : wpAny (model prog w) A (compareOp .Eq (.ref a) (.ref b)) Q E s :=
  kqd_eq N ma rfl rfl Da sa mb rfl rfl Db sb ha hb hu (h _ decide_eq_true_iff)
end
noncomputable def forBody : Stmt → List Stmt
  | .For _ _ b _ _ => b
  | _ => []
noncomputable def firstOf : List Stmt → List Stmt
  | st :: _ => forBody st
  | [] => []
noncomputable def outerBody : List Stmt := firstOf (lawBody.drop 11)
noncomputable def innerBody : List Stmt := firstOf outerBody
set_option maxRecDepth 100000 in
set_option maxHeartbeats 4000000 in
theorem law_turn (w : World) (mean : ExcName → Option PySem.Value) (mg mb : Str → Option PySem.Value) (h₀ : Heap) (L fa lr lf ln lo lu I1 I2 : Addr) (cd : PySem.Value) (yr yf yn vf : List PySem.Value) (ns : List (Array UInt8)) (fl : List T3) (nf p sz : Nat) (tp ts : Tok) (oI1 oI2 ou o4 o5 o6 : Obj) (tl : List (Addr × Obj)) (Away : Addr → Prop) (m : Str → Option PySem.Value) (s : Shared) (Q : Flow → Shared → Prop)
    (B : Below callerA h₀ [] h₀) (X : (Mine.lawK w.params).In h₀) (T : Top Mine.hd.view_1_2 (looseW Mine.hd.view_1_2 []) mean mg mb h₀)
    (hN : NamesAre yn ns) (hl : ns.length = 8) (hF : RowsAre yf (frontF ns)) (hR : RowsAre yr fun k => ns.drop k) (hs : 1 ≤ sz ∧ sz ≤ 4) (hp : p + sz < 8)
    (d4 : o4.data = .cell (some (.ref ln))) (d5 : o5.data = .cell (some (.int (sz : Int) ts)))
    (hr : At m (Str.ofString "rests") (.ref lr)) (hf : At m (Str.ofString "fronts") (.ref lf)) (ho : At m (Str.ofString "found") (.ref lo)) (hu : At m (Str.ofString "due") (.ref lu)) (hpl : At m (Str.ofString "place") (.int (p : Int) tp))
    (hD : DatAll tl vf (fl.map d3)) (hfl : fl.length ≤ 1000)
    (a1 : ∀ q ∈ tl, q.1 ≠ lo) (a2 : ∀ q ∈ [(lu, ou), (lf, lstN yf), (lr, lstN yr), (ln, lstN yn), (L + 1 + 1 + 1 + 1 + 1 + 1, o6), (L + 1 + 1 + 1 + 1 + 1, o5), (L + 1 + 1 + 1 + 1, o4)], q.1 ≠ lo) (a3 : I1 ≠ lo) (a4 : I2 ≠ lo) (a5 : ∀ q ∈ tl, Away q.1)
    (a6 : ∀ t, (∀ q ∈ (I2, oI2) :: (I1, oI1) :: (lo, listOf vf.toArray nf) :: (lu, ou) :: (lf, lstN yf) :: (lr, lstN yr) :: (ln, lstN yn) :: (L + 1 + 1 + 1 + 1 + 1 + 1, o6) :: (L + 1 + 1 + 1 + 1 + 1, o5) :: (L + 1 + 1 + 1 + 1, o4) :: tl, @LT.lt Nat _ q.1 t) → Away t)
    (F : Fr h₀ L s.heap m) (N : News h₀ L s.heap ((I2, oI2) :: (I1, oI1) :: (lo, listOf vf.toArray nf) :: (lu, ou) :: (lf, lstN yf) :: (lr, lstN yr) :: (ln, lstN yn) :: (L + 1 + 1 + 1 + 1 + 1 + 1, o6) :: (L + 1 + 1 + 1 + 1 + 1, o5) :: (L + 1 + 1 + 1 + 1, o4) :: tl))
    (k : ∀ (vf' : List PySem.Value) (nf' : Nat) (tl' : List (Addr × Obj)) (m' : Str → Option PySem.Value) (h : Heap) (tk : Nat), At m' (Str.ofString "rests") (.ref lr) → At m' (Str.ofString "fronts") (.ref lf) → At m' (Str.ofString "found") (.ref lo) → At m' (Str.ofString "due") (.ref lu) →
      DatAll tl' vf' ((fStep sz (bits ns sz) fl p).map d3) → (∀ q ∈ tl, q ∈ tl') → (∀ q ∈ tl', q.1 ≠ lo ∧ Away q.1) → Fr h₀ L h m' →
      News h₀ L h ((I2, oI2) :: (I1, oI1) :: (lo, listOf vf'.toArray nf') :: (lu, ou) :: (lf, lstN yf) :: (lr, lstN yr) :: (ln, lstN yn) :: (L + 1 + 1 + 1 + 1 + 1 + 1, o6) :: (L + 1 + 1 + 1 + 1 + 1, o5) :: (L + 1 + 1 + 1 + 1, o4) :: tl') → Q .next { s with heap := h, toks := tk }) :
    wpP Clean (model PySem.Challenge.rw_pd0128_01.row.prog w) (callerA.deeper (envOfC (Str.ofString "law") lawScope L fa cd)) (execs innerBody (envOfC (Str.ofString "law") lawScope L fa cd)) Q (fun _ _ => False) s := by
  have hNL : NL ns := hN.2
  obtain ⟨A, eA⟩ : ∃ A, A = lcp (frontF ns p) (frontF ns (p + sz)) := ⟨_, rfl⟩
  obtain ⟨C, eC⟩ : ∃ C, C = lcp (ns.drop p) (ns.drop (p + sz)) := ⟨_, rfl⟩
  obtain ⟨hA1, hA2⟩ := ahead_eq (by omega) eA
  obtain ⟨hC1, hC2⟩ := behind_eq eC
  have hC3 := behind_le eC
  have e1 : J ((ns.take ((p : Int)).toNat).drop ((p : Int) - (A.length : Int)).toNat) = (J A).reverse := by
    rw [hA2, Int.toNat_natCast, show ((p : Int) - (A.length : Int)).toNat = p - A.length by omega]
  have e2 : J ((ns.take ((p : Int) + (C.length : Int)).toNat).drop ((p : Int)).toNat) = J C := by
    rw [hC2, Int.toNat_natCast, show ((p : Int) + (C.length : Int)).toNat = p + C.length by omega]
  revert X
  k_fill
  intro X
  unfold innerBody outerBody lawBody lawScope lawRec
  dsimp only [List.drop, firstOf, forBody]
  refine execsP ?_
  refine wpP.of_any ?_
  k_steps
  all_goals (try k_data)
  refine execsP ?_
  refine wpP.of_any ?_
  k_steps
  all_goals (try k_data)
  refine execsP ?_
  refine wpP.of_any ?_
  k_steps
  all_goals (try k_data)
  refine execsP ?_
  refine wpP.of_any ?_
  k_steps
  all_goals (try k_data)
  refine execsP ?_
  refine IfP ?_
  refine Compare1P ?_
  refine ListP ?_
  refine splConsP ?_
  refine CallP ?_
  k_steps
  all_goals (try k_data)
  (with_reducible rename _ = lcp (frontF _ _) _ => hA)
  rw [← eA] at hA
  replace hA := hA.symm
  subst hA
  (with_reducible rename _ = lcp (List.drop _ _) _ => hBh)
  rw [← eC] at hBh
  replace hBh := hBh.symm
  subst hBh
  walk_at "mine:argument"
  walk_at "mine:mirror"
  refine splConsP ?_
  refine wpP.of_any ?_
  k_steps
  all_goals (try k_data)
  refine splNilP ?_
  k_steps
  all_goals (try k_data)
  refine wpP.of_any ?_
  k_steps
  all_goals (try k_data)
  (with_reducible rename News _ _ _ _ => N₅)
  rw [e1, e2] at N₅
  refine ne_BL (.cons (.cons .nil)) (.cons (.cons .nil)) N₅ (by k_mem) (by k_mem) (by ktr_units) ?_
  rw [decide_eq_true rfl]
  k_steps
  all_goals (try k_data)
  refine wpP.of_any ?_
  k_steps
  all_goals (try k_data)
  refine execsP ?_
  refine wpP.of_any ?_
  k_steps
  all_goals (try k_data)
  (with_reducible rename News _ _ _ _ => N₇)
  (with_reducible rename Fr _ _ _ _ => F₇)
  have i1 : ((p : Int) - (A.length : Int)) = ((p - A.length : Nat) : Int) := by omega
  have i2 : ((p : Int) + (C.length : Int) + (sz : Int)) = ((p + C.length + sz : Nat) : Int) := by omega
  rw [i1, i2] at N₇
  (rename _ ∧ _ => lD)
  have hst : fStep sz (bits ns sz) fl p = if p - A.length + sz ≤ p + C.length ∧ (sz, p - A.length, p + C.length + sz) ∉ fl then fl ++ [(sz, p - A.length, p + C.length + sz)] else fl := by
    unfold fStep
    rw [← ahead_len (by omega), ← behind_len, ← eA, ← eC]
  have hAw := a6 _ (lt_of_allLt lD.2.2.2.2)
  have hDo := Ne.symm (Nat.ne_of_lt lD.2.2.2.2.2.2.1)
  have N₈ := News.less (fun q hq => by
    rcases List.mem_cons.mp hq with h | hq
    · exact List.mem_cons.mpr (.inl h)
    · exact List.mem_cons_of_mem _ (List.mem_cons_of_mem _ (List.mem_cons_of_mem _ (List.mem_cons_of_mem _ (List.mem_cons_of_mem _ hq))))) N₇
  clear N₇
  refine execsP ?_
  refine wpP.of_any ?_
  k_steps
  all_goals (try k_data)
  · refine notIn_D N₈ (by k_mem) hD (by intro q hq; repeat (first | exact hq | refine List.mem_cons_of_mem _ ?_)) dat_head (fun q hq => hq) (d3_ok _) rfl (by ke_room) ?_
    intro bb hbb
    rw [d3_mem] at hbb
    by_cases hin : (sz, p - A.length, p + C.length + sz) ∈ fl
    · rw [hbb.mpr hin]
      k_steps
      all_goals (try k_data)
      dsimp only
      refine wpP.of_any ?_
      k_steps
      all_goals (try k_data)
      refine k vf nf tl _ _ _ ?g1 ?g2 ?g3 ?g4 ?g5 (fun q hq => hq) (fun q hq => ⟨a1 q hq, a5 q hq⟩) F₇ (News.less ?g6 N₈)
      case g5 => rw [hst, if_neg (fun x => x.2 hin)]; exact hD
      case g6 =>
        intro q hq
        exact List.mem_cons_of_mem _ hq
      all_goals walk_at "mine:at"
    · rw [Bool.eq_false_iff.mpr fun x => hin (hbb.mp x)]
      k_steps
      all_goals (try k_data)
      refine append_L (pre := [(_, _), (_, _), (_, _)]) (post := _) F₇ N₈ ?ap1 ?ap2 ?_ ?ap3
      case ap1 =>
        intro q hq
        simp only [List.mem_cons, List.not_mem_nil, or_false] at hq
        rcases hq with rfl | rfl | rfl
        · exact hDo
        · exact a4
        · exact a3
      case ap2 =>
        intro q hq
        have hq : q ∈ [(lu, ou), (lf, lstN yf), (lr, lstN yr), (ln, lstN yn), (L + 1 + 1 + 1 + 1 + 1 + 1, o6), (L + 1 + 1 + 1 + 1 + 1, o5), (L + 1 + 1 + 1 + 1, o4)] ++ tl := hq
        rcases List.mem_append.mp hq with hq | hq
        · exact a2 q hq
        · exact a1 q hq
      case ap3 =>
        have := hD.length
        rw [List.length_map] at this
        omega
      intro h₉ F₉ N₉
      refine wpAny_pure ?_
      dsimp only
      refine wpP.of_any ?_
      refine wpAny_pure ?_
      refine k _ _ _ _ _ _ ?j1 ?j2 ?j3 ?j4 ?j5 ?j8 ?j6 F₉ (News.reorder N₉)
      case j8 => exact fun q hq => List.mem_cons_of_mem _ hq
      case j5 =>
        rw [hst, if_pos ⟨by omega, hin⟩, List.map_append]
        exact (hD.mono fun q hq => List.mem_cons_of_mem _ hq).append (DatAll.one dat_head)
      case j6 =>
        intro q hq
        rcases List.mem_cons.mp hq with rfl | hq
        · exact ⟨hDo, hAw⟩
        · exact ⟨a1 q hq, a5 q hq⟩
      all_goals walk_at "mine:at"
  · dsimp only
    refine wpP.of_any ?_
    k_steps
    all_goals (try k_data)
    refine k vf nf tl _ _ _ ?g1 ?g2 ?g3 ?g4 ?g5 (fun q hq => hq) (fun q hq => ⟨a1 q hq, a5 q hq⟩) F₇ (News.less ?g6 N₈)
    case g5 => rw [hst, if_neg (fun x => by omega)]; exact hD
    case g6 =>
      intro q hq
      exact List.mem_cons_of_mem _ hq
    all_goals walk_at "mine:at"
end
theorem rules_L7 : True := by
  k_with_none
  k_with "m:call type:type" => (k_here; (with_reducible show wpAny _ _ (call (Value.type "type") [Value.bytes _ _]) _ _ _); (refine type_bytes ?_))
  k_with "m:call builtin:issubclass" => (k_here; (show wpAny _ _ (call (Value.builtin "issubclass") [Value.type "bytes", Value.ref _]) _ _ _); k_dflt (refine' issub_N (by (k_asm)) (by (k_mem)) ?_))
  k_with "m:mine:news" => first | assumption | (refine cb_drop (by assumption) ?_; intro p hp; repeat (first | exact hp | refine List.mem_cons_of_mem _ ?_))
  k_with "m:mine:size" => first | omega | (simp only [Array.size_append, List.size_toArray, List.length_cons, List.length_nil] at *; omega)
  k_with "m:getMethod bytes" => (k_here; (with_reducible first | refine meth FB.slot_bytes_startswith FB.type_bytes_startswith ?_ | refine meth FB.slot_bytes_endswith FB.type_bytes_endswith ?_ | refine meth slot_rfind type_rfind ?_ | refine meth slot_rstrip type_rstrip ?_ | refine meth slot_split type_split ?_ | refine meth slot_join type_join ?_))
  k_with "m:call builtin:bytes.startswith" => (k_here; (show wpAny _ _ (call (Value.builtin "bytes.startswith") [Value.bytes _ _, Value.bytes _ _]) _ _ _); (refine call_starts ?_))
  k_with "m:call builtin:bytes.endswith" => (k_here; (show wpAny _ _ (call (Value.builtin "bytes.endswith") [Value.bytes _ _, Value.bytes _ _]) _ _ _); (refine call_ends ?_))
  k_with "m:call builtin:bytes.rfind" => (k_here; (show wpAny _ _ (call (Value.builtin "bytes.rfind") [Value.bytes _ _, Value.bytes _ _]) _ _ _); (refine call_rfind ?_))
  k_with "m:call builtin:bytes.rstrip" => (k_here; (show wpAny _ _ (call (Value.builtin "bytes.rstrip") [Value.bytes _ _, Value.bytes _ _]) _ _ _); (refine call_rstrip (by walk_at "mine:size") ?_); intro _ _)
  k_with "m:truthy bytes" => (k_here; (with_reducible show wpAny _ _ (truthy (Value.bytes _ _)) _ _ _); (refine truthy_bytes (by walk_at "mine:size") ?_))
  k_with "m:call builtin:len" => (k_here; (show wpAny _ _ (call (Value.builtin "len") [Value.bytes _ _]) _ _ _); (refine len_bytes (by walk_at "mine:size") ?_))
  k_with "m:subscriptTail" => (k_here; (with_reducible show wpAny _ _ (subscriptTail _ (Expr.Slice _ _ none _) (Value.bytes _ _) (Value.ref _)) _ _ _); (with_reducible rename Fr _ _ _ _ => F'); (with_reducible rename News _ _ _ _ => N'); (refine slice_B (s := ⟨_, _, _, _, _⟩) F' N' (by constructor) (by constructor) (by walk_at "mine:size") ?_); intro _ _ _ F' N' hsz')
  k_with "m:binaryOp Mult bytes int" => (k_here; (with_reducible show wpAny _ _ (binaryOp Operator.Mult (Value.bytes _ _) (Value.int _ _)) _ _ _); (refine mul_one (by omega) (by walk_at "mine:size") ?_); intro _ _)
  k_with "m:binaryOp Add bytes bytes" => (k_here; (with_reducible show wpAny _ _ (binaryOp Operator.Add (Value.bytes _ _) (Value.bytes _ _)) _ _ _); (refine KBy.add_bytes (by walk_at "mine:size") ?_); intro _ _)
  k_with "m:compareOp NotEq bytes bytes" => (k_here; (refine ne_bytes ?_))
  k_with "m:compareOp Eq bytes bytes" => (k_here; (refine eq_bytes ?_))
  k_with "m:exec Try" => (k_here; (refine Try_calm ?_))
  k_with "m:mine:passes_own" => exact fun _ _ h => (show False from h).elim
  k_with "m:inplaceOp Add" => (k_here; (with_reducible show wpAny _ _ (inplaceOp Operator.Add (Value.bytes _ _) (Value.bytes _ _)) _ _ _); (refine iadd_bytes (by walk_at "mine:size") ?_); intro _ _)
  k_with "m:call builtin:bytes.split" => (k_here; (show wpAny _ _ (call (Value.builtin "bytes.split") [Value.bytes _ _, Value.bytes _ _]) _ _ _); k_dflt (refine' call_split1 (by (k_asm)) (by (k_asm)) (by (walk_at "mine:size")) ?_); intro l' h' vs' k' hv' hn' F' N' l1'; (try dsimp only))
  k_with "m:call builtin:len" => (k_here; (show wpAny _ _ (call (Value.builtin "len") [Value.ref _]) _ _ _); k_dflt (refine' len_L (by (k_asm)) (by (k_mem)) (by (omega)) ?_); intro _ _)
  k_with "m:mine:at" => with_reducible (first | exact At.here | assumption | exact At.skip (by decide) (by walk_at "mine:at"))
  k_with "m:eval Name" => (k_here; (with_reducible fail_if_success show wpAny _ _ (eval _ (compEnvC _ _ _ _)) _ _ _); (with_reducible fail_if_success show wpAny _ _ (eval _ (compEnv _ _ _)) _ _ _); (with_reducible fail_if_success show wpAny _ _ (eval _ (envOfC _ _ _ _ _)) _ _ _); (with_reducible rename At _ _ _ => hAt'); k_dflt (refine' ldA (by (k_asm)) (by (walk_at "mine:at")) ?_))
  k_with "m:loadName" => (k_here; (with_reducible fail_if_success show wpAny _ _ (loadName (envOfC _ _ _ _ _) _) _ _ _); (with_reducible rename At _ _ _ => hAt'); k_dflt (refine' ldnA (by (k_asm)) (by (walk_at "mine:at")) ?_))
  k_with "m:subscriptTail" => (k_here; (with_reducible show wpAny _ _ (subscriptTail _ _ (Value.ref _) (Value.int (-1) _)) _ _ _); k_dflt (refine' item_last (by (k_asm)) (by (k_mem)) ?_))
  k_with "m:mine:enterC" => (refine' code_defC (by (k_asm)) (by (k_asm)) (by (k_asm)) (by (k_asm)) (by (k_asm)) (by (exact rfl)) (by (exact rfl)) (by (assumption)) (by (k_is)) (by (k_is)) (by (ktr_room)) (by (exact BindsTo.of_eq rfl)) (by (exact rfl)) (by (decide +kernel)) ?_ (by (exact rfl)) (by (exact rfl)) (by (exact rfl)); k_whole; intro g' L' h' tk' cells' FG' F' N' Y' B' X' T' l1; (have hL9 := Lts.mk' l1; (repeat (replace hL9 := Lts.drop hL9))); (try k_lt l1); k_cells Y'; (try simp only [List.cons_append, List.nil_append] at N'); (try dsimp only); (try k_lift B'); (try k_fold))
  k_with "m:call ref" => (k_here; (with_reducible show wpAny _ _ (call (Value.ref 94) [Value.bytes _ _]) _ _ _); k_dflt (refine' Claim.use (fspath_ok _ _) (by (k_asm)) (by (k_asm)) (by (k_asm)) (by (k_asm)) (by (k_asm)) (by (first | exact rfl | assumption)) (by (ktr_room)) (by (ktr_units)) ?_); intro v h' tk' hv F' N'; subst hv; (try dsimp only); (try k_fold))
  k_with "m:call ref" => (k_here; (with_reducible show wpAny _ _ (call (Value.ref 108) [Value.bytes _ _]) _ _ _); k_dflt (refine' Claim.use (get_sep_ok _ _) (by (k_asm)) (by (k_asm)) (by (k_asm)) (by (k_asm)) (by (k_asm)) (by (first | exact rfl | assumption)) (by (ktr_room)) (by (ktr_units)) ?_); intro v h' tk' hv F' N'; (obtain ⟨t9, hv⟩ := hv); subst hv; (try dsimp only); (try k_fold))
  k_with "m:call ref" => (k_here; (with_reducible show wpAny _ _ (call (Value.ref 122) [Value.bytes _ _]) _ _ _); k_dflt (refine' Claim.use (dirname_ok _ _ (by (walk_at "mine:size"))) (by (k_asm)) (by (k_asm)) (by (k_asm)) (by (k_asm)) (by (k_asm)) (by (first | exact rfl | assumption)) (by (ktr_room)) (by (ktr_units)) ?_); intro v h' tk' hv F' N'; (obtain ⟨t9, hv⟩ := hv); subst hv; (try dsimp only); (try k_fold))
  k_with "m:call ref" => (k_here; (with_reducible show wpAny _ _ (call (Value.ref 127) [Value.ref _]) _ _ _); k_dflt (refine' common_use (by (k_asm)) (by (k_asm)) (by (k_asm)) (by (k_asm)) (by (k_asm)) (by (first | exact rfl | assumption)) (by (walk_at "mine:size")) (by (walk_at "mine:size")) (by (assumption)) (by (assumption)) (by (ktr_room)) (by (ktr_units)) ?_); intro v h' tk' hv F' N'; (obtain ⟨t9, hv⟩ := hv); subst hv; (try dsimp only); (try k_fold))
  k_with "m:eval Name" => (k_here; (with_reducible show wpAny _ _ (eval _ (envOfC _ _ _ _ _)) _ _ _); (with_reducible rename At _ _ _ => hAt'); k_dflt (refine' ldX (by (k_asm)) (by (walk_at "mine:at")) ?_ (by (rfl)) (by (rfl))))
  k_with "m:mine:k_all" => ((with_reducible rename Lts _ _ => hL8); exact Lts.ne hL8 (by omega))
  k_with "m:mine:fn" => (refine' fn_at (by (k_asm)) (by (k_asm)) (by (k_is)))
  k_with "m:mine:argument" => (refine callWith_refP (splConsP ?_); refine wpP.of_any ?_; k_steps; (all_goals (try k_data)); refine splNilP ?_; refine ⟨by walk_at "mine:fn", ?_⟩)
  k_with "m:mine:mirror" => (k_dflt (refine' ClaimP.use (cn := Str.ofString "law") (mirror_ok _ _ (by (assumption))) (by (k_asm)) (by (k_asm)) (by (k_asm)) (by (k_asm)) (by (k_asm)) (by (first | exact rfl | assumption)) (by (ktr_room)) (by (ktr_units)) ?_); (all_goals (try k_data)); intro v h' tk' hv F' N'; (obtain ⟨t9, hv⟩ := hv); subst hv; dsimp only)
  k_with "m:mine:mem" => first | k_mem | (with_reducible assumption) | (refine List.mem_cons_of_mem _ ?_; walk_at "mine:mem")
  k_with "m:subscriptTail Name Slice ref ref" => (k_here; (with_reducible show wpAny _ _ (subscriptTail _ (PySem.Expr.Slice none (some _) none _) (PySem.Value.ref _) (PySem.Value.ref _)) _ _ _); k_dflt (refine' slice_upN (s := ⟨_, _, _, _, _⟩) (by (k_asm)) (by (k_asm)) (by (walk_at "mine:mem")) (by (assumption)) (by (constructor)) (by (omega)) ?_); intro D' h' us' hU' F' N' l1'; (try dsimp only); (try k_fold))
  k_with "m:subscriptTail Name Slice ref ref" => (k_here; (with_reducible show wpAny _ _ (subscriptTail _ (PySem.Expr.Slice (some _) none none _) (PySem.Value.ref _) (PySem.Value.ref _)) _ _ _); k_dflt (refine' slice_fromN (s := ⟨_, _, _, _, _⟩) (by (k_asm)) (by (k_asm)) (by (walk_at "mine:mem")) (by (assumption)) (by (constructor)) (by (omega)) ?_); intro D' h' us' hU' F' N' l1'; (try dsimp only); (try k_fold))
  k_with "m:subscriptTail Name Slice ref ref" => (k_here; (with_reducible show wpAny _ _ (subscriptTail _ (PySem.Expr.Slice (some _) (some _) none _) (PySem.Value.ref _) (PySem.Value.ref _)) _ _ _); k_dflt (refine' slice_bothN (s := ⟨_, _, _, _, _⟩) (by (k_asm)) (by (k_asm)) (by (walk_at "mine:mem")) (by (assumption)) (by (constructor)) (by (constructor)) (by (omega)) (by (omega)) (by (omega)) ?_); intro D' h' us' hU' F' N' l1'; (try dsimp only); (try k_fold))
  k_with "m:call builtin:bytes.join" => (k_here; (show wpAny _ _ (call (PySem.Value.builtin "bytes.join") [PySem.Value.bytes _ _, PySem.Value.ref _]) _ _ _); k_dflt (refine' join_N (by (k_asm)) (by (walk_at "mine:mem")) (by (with_reducible assumption)) ?_); intro t' _; (try dsimp only))
  k_with "m:eval Name" => (k_here; (with_reducible show wpAny _ _ (eval (PySem.Expr.Name (Str.ofString "size") _) (envOfC _ _ _ _ _)) _ _ _); k_dflt (refine' nameX_C (x := Str.ofString "size") (by (k_asm)) (by (rfl)) (by (k_mem)) (by (k_asm)) ?_ (by (rfl)) (by (rfl)); k_whole))
  k_with "m:eval Name" => (k_here; (with_reducible show wpAny _ _ (eval (PySem.Expr.Name (Str.ofString "names") _) (envOfC _ _ _ _ _)) _ _ _); k_dflt (refine' nameX_C (x := Str.ofString "names") (by (k_asm)) (by (rfl)) (by (k_mem)) (by (k_asm)) ?_ (by (rfl)) (by (rfl)); k_whole))
  k_with "m:eval Name" => (k_here; (with_reducible show wpAny _ _ (eval (PySem.Expr.Name (Str.ofString "names") _) (compEnvC _ _ _ _)) _ _ _); k_dflt (refine' compC_free (x := Str.ofString "names") (by (k_asm)) (by (rfl)) (by (k_mem)) (by (k_asm)) ?_ (by (rfl)) (by (rfl)) (by (decide)); k_whole))
  k_with "m:eval Name" => (k_here; (with_reducible show wpAny _ _ (eval (PySem.Expr.Name (Str.ofString "size") _) (compEnvC _ _ _ _)) _ _ _); k_dflt (refine' compC_free (x := Str.ofString "size") (by (k_asm)) (by (rfl)) (by (k_mem)) (by (k_asm)) ?_ (by (rfl)) (by (rfl)) (by (decide)); k_whole))
  k_with "m:eval Name" => (k_here; (with_reducible show wpAny _ _ (eval (PySem.Expr.Name (Str.ofString "whole") _) (compEnvC _ _ _ _)) _ _ _); k_dflt (refine' compC_free (x := Str.ofString "whole") (by (k_asm)) (by (rfl)) (by (k_mem)) (by (k_asm)) ?_ (by (rfl)) (by (rfl)) (by (decide)); k_whole))
  k_with "m:eval Name" => (k_here; (with_reducible show wpAny _ _ (eval (PySem.Expr.Name (Str.ofString "whole") _) (envOfC _ _ _ _ _)) _ _ _); k_dflt (refine' nameX_C (x := Str.ofString "whole") (by (k_asm)) (by (rfl)) (by (k_mem)) (by (k_asm)) ?_ (by (rfl)) (by (rfl)); k_whole))
  k_with "m:mine:k_ne" => (refine neN ?_; (try dsimp only); first | assumption | (refine Ne.symm ?_; assumption))
  k_with "m:mine:k_all" => with_reducible assumption
  k_with "m:eval ListComp" => refine Stop.go ?_
  k_with "m:compareOp Eq ref ref" => refine Stop.go ?_
  k_with "m:compareOp NotIn" => refine Stop.go ?_
  trivial
section
theorem whRow_succ (s : Nat) (bs : List Bool) (f k : Nat) : whRow s bs f (k + 1) = whRow s bs f k ++ if whIn s bs f (f + 2 * s + k) = true then [(f, f + 2 * s + k)] else [] := by
  unfold whRow
  rw [List.range_succ, List.map_append, List.filter_append, List.map_singleton, List.filter_cons, List.filter_nil]
theorem wh_succ (s : Nat) (bs : List Bool) (k : Nat) : wh s bs (k + 1) = wh s bs k ++ whRow s bs k (9 - (k + 2 * s)) := by
  unfold wh
  rw [List.range_succ, List.flatMap_append]
  simp
theorem dat_head2 {t : Addr} {a b : Nat} {u v : Tok} {n : Nat} {r : List (Addr × Obj)} : DatIn ((t, { cls := .type "tuple", data := .seq #[PySem.Value.int (a : Int) u, PySem.Value.int (b : Int) v] n }) :: r) (.ref t) (d2 (a, b)) :=
  DatIn.tuple (vs := [PySem.Value.int (a : Int) u, PySem.Value.int (b : Int) v]) List.mem_cons_self (.cons (.int _ _) (.cons (.int _ _) .nil))
theorem News.reorder2 {h₀ h : Heap} {L : Addr} {a x1 x2 b c d e y1 y2 y3 : Addr × Obj} {tl : List (Addr × Obj)} (N : News h₀ L h (a :: x1 :: x2 :: b :: c :: d :: e :: y1 :: y2 :: y3 :: tl)) : News h₀ L h (a :: b :: c :: d :: e :: tl) := News.pick [0, 3, 4, 5, 6] 10 N
theorem News.reorder3 {h₀ h : Heap} {L : Addr} {x1 x2 b c d e y1 y2 y3 : Addr × Obj} {tl : List (Addr × Obj)} (N : News h₀ L h (x1 :: x2 :: b :: c :: d :: e :: y1 :: y2 :: y3 :: tl)) : News h₀ L h (b :: c :: d :: e :: tl) := News.pick [2, 3, 4, 5] 9 N
theorem ne_of_lt9 {x1 x2 b c d e y1 y2 y3 : Addr × Obj} {tl : List (Addr × Obj)} {t : Addr} (h : AllLt t (x1 :: x2 :: b :: c :: d :: e :: y1 :: y2 :: y3 :: tl)) : (∀ p ∈ b :: c :: d :: e :: tl, p.1 ≠ t) ∧ ∀ p ∈ tl, @LT.lt Nat _ p.1 t := by
  have h := lt_of_allLt h
  constructor
  · intro p hp
    refine Nat.ne_of_lt (h p ?_)
    simp only [List.mem_cons] at hp ⊢
    rcases hp with h | h | h | h | h <;> simp only [h, true_or, or_true]
  · intro p hp
    refine h p ?_
    simp only [List.mem_cons]
    simp only [hp, or_true]
noncomputable def restBody : List Stmt := outerBody.drop 1
/-- between the turns that fill whole -/
noncomputable def WhJ (base : List (Addr × Obj)) (Away : Addr → Prop) (sz : Nat) (bs : List Bool) (i j : Nat) (ys : List PySem.Value) (nw : List (Addr × Obj)) : Prop :=
  ∃ tw, nw = tw ++ base ∧ (∀ e ∈ tw, Away e.1) ∧ DatAll tw ys ((wh sz bs i ++ whRow sz bs i j).map d2) ∧ ys.length ≤ 9 * i + j ∧ i ≤ 8 ∧ j ≤ 9
theorem WhJ.has {base nw : List (Addr × Obj)} {Away : Addr → Prop} {sz i j : Nat} {bs : List Bool} {ys : List PySem.Value} (h : WhJ base Away sz bs i j ys nw) : ∀ e ∈ base, e ∈ nw := by
  obtain ⟨tw, rfl, _⟩ := h
  exact fun e he => List.mem_append_right _ he
set_option maxRecDepth 100000 in
set_option maxHeartbeats 4000000 in
theorem law_rest1 (w : World) (mean : ExcName → Option PySem.Value) (mg mb : Str → Option PySem.Value) (h₀ : Heap) (L fa lr lf ln lo lu I1 : Addr) (cd : PySem.Value) (yn vu : List PySem.Value) (ns : List (Array UInt8)) (dl : List T3) (nu sz : Nat) (ts : Tok) (oI1 oo oF oR o4 o5 o6 : Obj) (v6 : Option PySem.Value) (tl : List (Addr × Obj)) (Away : Addr → Prop) (m : Str → Option PySem.Value) (s : Shared) (Q : Flow → Shared → Prop)
    (B : Below callerA h₀ [] h₀) (X : (Mine.lawK w.params).In h₀) (T : Top Mine.hd.view_1_2 (looseW Mine.hd.view_1_2 []) mean mg mb h₀)
    (hN : NamesAre yn ns) (hl : ns.length = 8) (hs : 1 ≤ sz ∧ sz ≤ 4)
    (d4 : o4.data = .cell (some (.ref ln))) (d5 : o5.data = .cell (some (.int (sz : Int) ts))) (d6 : o6.data = .cell v6)
    (hu : At m (Str.ofString "due") (.ref lu)) (a6 : ∀ t, (∀ q ∈ (I1, oI1) :: (lo, oo) :: (lu, listOf vu.toArray nu) :: (lf, oF) :: (lr, oR) :: (ln, lstN yn) :: (L + 1 + 1 + 1 + 1 + 1 + 1, o6) :: (L + 1 + 1 + 1 + 1 + 1, o5) :: (L + 1 + 1 + 1 + 1, o4) :: tl, @LT.lt Nat _ q.1 t) → Away t)
    (a5 : ∀ q ∈ tl, Away q.1) (a7 : ∀ t, Away t → t ≠ L + 1 + 1 + 1 + 1 + 1 + 1) (b1 : @Ne Nat I1 (L + 1 + 1 + 1 + 1 + 1 + 1)) (b2 : @Ne Nat lo (L + 1 + 1 + 1 + 1 + 1 + 1)) (b3 : @Ne Nat lu (L + 1 + 1 + 1 + 1 + 1 + 1)) (b4 : @Ne Nat lf (L + 1 + 1 + 1 + 1 + 1 + 1)) (b5 : @Ne Nat lr (L + 1 + 1 + 1 + 1 + 1 + 1)) (b6 : @Ne Nat ln (L + 1 + 1 + 1 + 1 + 1 + 1))
    (F : Fr h₀ L s.heap m) (N : News h₀ L s.heap ((I1, oI1) :: (lo, oo) :: (lu, listOf vu.toArray nu) :: (lf, oF) :: (lr, oR) :: (ln, lstN yn) :: (L + 1 + 1 + 1 + 1 + 1 + 1, o6) :: (L + 1 + 1 + 1 + 1 + 1, o5) :: (L + 1 + 1 + 1 + 1, o4) :: tl))
    (k : ∀ (D : Addr) (ys : List PySem.Value) (tw : List (Addr × Obj)) (o6' : Obj) (h : Heap) (tk : Nat), o6'.data = .cell (some (.ref D)) → DatAll tw ys ((wh sz (bits ns sz) 8).map d2) → (∀ e ∈ tw, Away e.1) → Fr h₀ L h m →
      News h₀ L h ((D, lstN ys) :: (I1, oI1) :: (lo, oo) :: (lu, listOf vu.toArray nu) :: (lf, oF) :: (lr, oR) :: (ln, lstN yn) :: (L + 1 + 1 + 1 + 1 + 1 + 1, o6') :: (L + 1 + 1 + 1 + 1 + 1, o5) :: (L + 1 + 1 + 1 + 1, o4) :: (tw ++ tl)) →
      wpP Clean (model PySem.Challenge.rw_pd0128_01.row.prog w) (callerA.deeper (envOfC (Str.ofString "law") lawScope L fa cd)) (execs (restBody.drop 1) (envOfC (Str.ofString "law") lawScope L fa cd)) Q (fun _ _ => False) { s with heap := h, toks := tk }) :
    wpP Clean (model PySem.Challenge.rw_pd0128_01.row.prog w) (callerA.deeper (envOfC (Str.ofString "law") lawScope L fa cd)) (execs restBody (envOfC (Str.ofString "law") lawScope L fa cd)) Q (fun _ _ => False) s := by
  revert X
  k_fill
  intro X
  unfold restBody outerBody lawBody lawScope lawRec at k ⊢
  dsimp only [List.drop, firstOf, forBody] at k ⊢
  refine execsP ?_
  refine AssignP ?_
  refine eval_LCG clean_kept (by with_unfolding_all rfl) rfl (by decide) (by intro _; rfl) ?_
  refine wpP.of_any ?_
  k_steps
  all_goals (try k_data)
  (with_reducible rename Fr _ _ _ _ => F₁)
  (with_reducible rename News _ _ _ _ => N₁)
  (with_reducible rename IsRange _ _ _ _ _ _ _ _ => hRg)
  refine comp_two clean_kept (a := 0) (b := 8) (c := 1) (n := 8) (a2 := fun i => 0 + (i : Int) * 1 + 2 * (sz : Int)) (b2 := fun _ => 9) (c2 := fun _ => 1) (n2 := fun i => 9 - (i + 2 * sz)) rfl (by decide) rfl (by rfl) (by rfl) (by decide) rfl rfl hRg (by intro _ _; rfl) F₁ N₁
    (fun i ys nw => WhJ ((I1, oI1) :: (lo, oo) :: (lu, listOf vu.toArray nu) :: (lf, oF) :: (lr, oR) :: (ln, lstN yn) :: (L + 1 + 1 + 1 + 1 + 1 + 1, o6) :: (L + 1 + 1 + 1 + 1 + 1, o5) :: (L + 1 + 1 + 1 + 1, o4) :: tl) Away sz (bits ns sz) i 0 ys nw) (fun i j ys nw => WhJ ((I1, oI1) :: (lo, oo) :: (lu, listOf vu.toArray nu) :: (lf, oF) :: (lr, oR) :: (ln, lstN yn) :: (L + 1 + 1 + 1 + 1 + 1 + 1, o6) :: (L + 1 + 1 + 1 + 1 + 1, o5) :: (L + 1 + 1 + 1 + 1, o4) :: tl) Away sz (bits ns sz) i j ys nw) ?hlen ?h0 ?src ?hsm2 ?hn2 (fun _ _ _ _ hz => hz) ?step ?out ?fin
  case hlen =>
    rintro i j ys nw ⟨_, _, _, _, h1, h2, h3⟩
    omega
  case h0 => exact ⟨[], rfl, (by intro e he; cases he), (by simp [wh, whRow]; exact .nil), (by simp), (by omega), (by omega)⟩
  case hsm2 =>
    intro i hi
    exact small_ok (by omega) (by omega) (by omega) trivial
  case hn2 =>
    intro i hi
    unfold Builtin.Range.rangeSize
    rw [if_pos (by omega)]
    split <;> omega
  case src =>
    rintro i t₁ ys nw hi hJ h₂ tk₂ I oI C oC D m₂ off ne hoC hx F₂ N₂
    clear ne
    have N₃ : News h₀ L h₂ ((I, oI) :: (C, oC) :: (D, lstN ys) :: (L + 1 + 1 + 1 + 1 + 1, o5) :: nw) := News.ins [(I, oI), (C, oC), (D, lstN ys)] N₂ (hJ.has _ (by k_mem))
    have FN := And.intro F₂ N₂
    clear F₁ N₁ N₂
    refine wpP.of_any ?_
    k_steps
    all_goals (try k_data)
    exact RngAt.intro (s := { s with heap := h₂, toks := tk₂ }) (by assumption) FN.1 FN.2 (by assumption)
  case step =>
    rintro i j t₁ t₂ ys nw hi hj hJ h₂ tk₂ I₁ o₁ I₂ o₂ C oC D m₂ off2 off1 ne hoC hx hy F₂ N₂
    clear ne
    have N₃ : News h₀ L h₂ ((I₂, o₂) :: (C, oC) :: (D, lstN ys) :: (I₁, o₁) :: (ln, lstN yn) :: (L + 1 + 1 + 1 + 1 + 1, o5) :: (L + 1 + 1 + 1 + 1, o4) :: nw) :=
      News.ins [(I₂, o₂), (C, oC), (D, lstN ys), (I₁, o₁)] (News.ins [(I₂, o₂), (C, oC), (D, lstN ys), (I₁, o₁)] (News.ins [(I₂, o₂), (C, oC), (D, lstN ys), (I₁, o₁)] N₂ (hJ.has _ (by k_mem))) (List.mem_cons_of_mem _ (hJ.has _ (by k_mem)))) (List.mem_cons_of_mem _ (List.mem_cons_of_mem _ (hJ.has _ (by k_mem))))
    have hx' : m₂ (Str.ofString "first") = some (.int ((i : Nat) : Int) t₁) := hx.trans (congrArg (fun z => some (PySem.Value.int z t₁)) (show (0 + (i : Int) * 1) = (i : Int) by omega))
    have hy' : m₂ (Str.ofString "last") = some (.int ((i + 2 * sz + j : Nat) : Int) t₂) := hy.trans (congrArg (fun z => some (PySem.Value.int z t₂)) (show (0 + (i : Int) * 1 + 2 * (sz : Int) + (j : Int) * 1) = ((i + 2 * sz + j : Nat) : Int) by omega))
    clear F₁ N₁ N₂ hx hy
    refine Tests_one ?_
    refine wpP.of_any ?_
    k_steps
    all_goals (try k_data)
    have hw : ((ns.take (((i + 2 * sz + j : Nat) : Int) - (sz : Int)).toNat).drop ((i : Nat) : Int).toNat = (ns.take ((i + 2 * sz + j : Nat) : Int).toNat).drop ((i : Int) + (sz : Int)).toNat) ↔ whIn sz (bits ns sz) i (i + 2 * sz + j) = true := by
      have := part_same (ns := ns) (s := sz) (f := i) (l := i + 2 * sz + j) (by omega) (by omega)
      rw [Int.toNat_natCast, Int.toNat_natCast, show (((i + 2 * sz + j : Nat) : Int) - (sz : Int)).toNat = i + 2 * sz + j - sz by omega, show ((i : Int) + (sz : Int)).toNat = i + sz by omega]
      exact this
    have hJh := hJ.has
    obtain ⟨tw, g1, g2, g3, g4, g5, g6⟩ := hJ
    refine eq_N (by k_asm) (by k_mem) (by k_mem) (by assumption) (by assumption) (by ktr_units) ?_
    by_cases hW : whIn sz (bits ns sz) i (i + 2 * sz + j) = true
    · rw [decide_eq_true (hw.mpr hW)]
      k_steps
      all_goals (try k_data)
      refine wpP.of_any ?_
      k_steps
      all_goals (try k_data)
      (with_reducible rename News _ _ _ _ => N₉)
      (rename _ ∧ _ => lD)
      obtain ⟨n1, n2⟩ := ne_of_lt9 (x1 := (_, o4)) (x2 := (_, o4)) (b := (I₂, o₂)) (c := (C, oC)) (d := (D, lstN ys)) (e := (I₁, o₁)) (y1 := (ln, lstN yn)) (y2 := (L + 1 + 1 + 1 + 1 + 1, o5)) (y3 := (L + 1 + 1 + 1 + 1, o4)) (tl := nw) lD
      refine Pend2.intro (by assumption) (News.reorder2 N₉) n1 ⟨(_, _) :: tw, by rw [g1]; rfl, ?_, ?_, ?_, by omega, by omega⟩
      · intro e he
        rcases List.mem_cons.mp he with rfl | he
        · exact a6 _ fun q hq => n2 q (hJh q hq)
        · exact g2 e he
      · rw [whRow_succ, if_pos hW, ← List.append_assoc, List.map_append]
        exact (g3.mono fun q hq => List.mem_cons_of_mem _ hq).append (DatAll.one dat_head2)
      · rw [List.length_append, List.length_singleton]
        omega
    · rw [decide_eq_false (fun x => hW (hw.mp x))]
      k_steps
      all_goals (try k_data)
      · (with_reducible rename News _ _ _ _ => N₉)
        exact Send2.intro (by assumption) (News.reorder3 N₉)
      · refine ⟨tw, g1, g2, ?_, by omega, by omega, by omega⟩
        rw [whRow_succ, if_neg hW, List.append_nil]
        exact g3
  case out =>
    rintro i ys nw hi ⟨tw, h1, h2, h3, h4, h5, h6⟩
    refine ⟨tw, h1, h2, ?_, by omega, by omega, by omega⟩
    rw [wh_succ]
    simpa [whRow] using h3
  case fin =>
    rintro ys nw ⟨tw, rfl, h2, h3, -, -, -⟩
    refine CFin.eval ?_
    intro D h₂ tk₂ F₂ N₂ off
    have h3 : DatAll tw ys ((wh sz (bits ns sz) 8).map d2) := by simpa [whRow] using h3
    have N₃ : News h₀ L h₂ ((D, lstN ys) :: (I1, oI1) :: (lo, oo) :: (lu, listOf vu.toArray nu) :: (lf, oF) :: (lr, oR) :: (ln, lstN yn) :: (L + 1 + 1 + 1 + 1 + 1 + 1, o6) :: (L + 1 + 1 + 1 + 1 + 1, o5) :: (L + 1 + 1 + 1 + 1, o4) :: (tw ++ tl)) := News.less (fun q hq => by
      simp only [List.mem_cons, List.mem_append] at hq ⊢
      rcases hq with h | h | h | h | h | h | h | h | h | h | h | h <;> simp only [h, true_or, or_true]) N₂
    have hD6 : @Ne Nat D (L + 1 + 1 + 1 + 1 + 1 + 1) := Ne.symm (off (L + 1 + 1 + 1 + 1 + 1 + 1, o6) (List.mem_append_right _ (by simp)))
    have ht6 : ∀ p ∈ tw ++ tl, p.1 ≠ L + 1 + 1 + 1 + 1 + 1 + 1 := fun p hp => by
      rcases List.mem_append.mp hp with hp | hp
      · exact a7 _ (h2 p hp)
      · exact a7 _ (a5 p hp)
    clear F₁ N₁ N₂
    k_steps
    all_goals (try k_data)
    exact k D ys tw _ _ _ (by assumption) h3 h2 (by assumption) (by assumption)
end
theorem rules_L8 : True := by
  k_with_none
  k_with "m:call type:type" => (k_here; (with_reducible show wpAny _ _ (call (Value.type "type") [Value.bytes _ _]) _ _ _); (refine type_bytes ?_))
  k_with "m:call builtin:issubclass" => (k_here; (show wpAny _ _ (call (Value.builtin "issubclass") [Value.type "bytes", Value.ref _]) _ _ _); k_dflt (refine' issub_N (by (k_asm)) (by (k_mem)) ?_))
  k_with "m:mine:news" => first | assumption | (refine cb_drop (by assumption) ?_; intro p hp; repeat (first | exact hp | refine List.mem_cons_of_mem _ ?_))
  k_with "m:mine:size" => first | omega | (simp only [Array.size_append, List.size_toArray, List.length_cons, List.length_nil] at *; omega)
  k_with "m:getMethod bytes" => (k_here; (with_reducible first | refine meth FB.slot_bytes_startswith FB.type_bytes_startswith ?_ | refine meth FB.slot_bytes_endswith FB.type_bytes_endswith ?_ | refine meth slot_rfind type_rfind ?_ | refine meth slot_rstrip type_rstrip ?_ | refine meth slot_split type_split ?_ | refine meth slot_join type_join ?_))
  k_with "m:call builtin:bytes.startswith" => (k_here; (show wpAny _ _ (call (Value.builtin "bytes.startswith") [Value.bytes _ _, Value.bytes _ _]) _ _ _); (refine call_starts ?_))
  k_with "m:call builtin:bytes.endswith" => (k_here; (show wpAny _ _ (call (Value.builtin "bytes.endswith") [Value.bytes _ _, Value.bytes _ _]) _ _ _); (refine call_ends ?_))
  k_with "m:call builtin:bytes.rfind" => (k_here; (show wpAny _ _ (call (Value.builtin "bytes.rfind") [Value.bytes _ _, Value.bytes _ _]) _ _ _); (refine call_rfind ?_))
  k_with "m:call builtin:bytes.rstrip" => (k_here; (show wpAny _ _ (call (Value.builtin "bytes.rstrip") [Value.bytes _ _, Value.bytes _ _]) _ _ _); (refine call_rstrip (by walk_at "mine:size") ?_); intro _ _)
  k_with "m:truthy bytes" => (k_here; (with_reducible show wpAny _ _ (truthy (Value.bytes _ _)) _ _ _); (refine truthy_bytes (by walk_at "mine:size") ?_))
  k_with "m:call builtin:len" => (k_here; (show wpAny _ _ (call (Value.builtin "len") [Value.bytes _ _]) _ _ _); (refine len_bytes (by walk_at "mine:size") ?_))
  k_with "m:subscriptTail" => (k_here; (with_reducible show wpAny _ _ (subscriptTail _ (Expr.Slice _ _ none _) (Value.bytes _ _) (Value.ref _)) _ _ _); (with_reducible rename Fr _ _ _ _ => F'); (with_reducible rename News _ _ _ _ => N'); (refine slice_B (s := ⟨_, _, _, _, _⟩) F' N' (by constructor) (by constructor) (by walk_at "mine:size") ?_); intro _ _ _ F' N' hsz')
  k_with "m:binaryOp Mult bytes int" => (k_here; (with_reducible show wpAny _ _ (binaryOp Operator.Mult (Value.bytes _ _) (Value.int _ _)) _ _ _); (refine mul_one (by omega) (by walk_at "mine:size") ?_); intro _ _)
  k_with "m:binaryOp Add bytes bytes" => (k_here; (with_reducible show wpAny _ _ (binaryOp Operator.Add (Value.bytes _ _) (Value.bytes _ _)) _ _ _); (refine KBy.add_bytes (by walk_at "mine:size") ?_); intro _ _)
  k_with "m:compareOp NotEq bytes bytes" => (k_here; (refine ne_bytes ?_))
  k_with "m:compareOp Eq bytes bytes" => (k_here; (refine eq_bytes ?_))
  k_with "m:exec Try" => (k_here; (refine Try_calm ?_))
  k_with "m:mine:passes_own" => exact fun _ _ h => (show False from h).elim
  k_with "m:inplaceOp Add" => (k_here; (with_reducible show wpAny _ _ (inplaceOp Operator.Add (Value.bytes _ _) (Value.bytes _ _)) _ _ _); (refine iadd_bytes (by walk_at "mine:size") ?_); intro _ _)
  k_with "m:call builtin:bytes.split" => (k_here; (show wpAny _ _ (call (Value.builtin "bytes.split") [Value.bytes _ _, Value.bytes _ _]) _ _ _); k_dflt (refine' call_split1 (by (k_asm)) (by (k_asm)) (by (walk_at "mine:size")) ?_); intro l' h' vs' k' hv' hn' F' N' l1'; (try dsimp only))
  k_with "m:call builtin:len" => (k_here; (show wpAny _ _ (call (Value.builtin "len") [Value.ref _]) _ _ _); k_dflt (refine' len_L (by (k_asm)) (by (k_mem)) (by (omega)) ?_); intro _ _)
  k_with "m:mine:at" => with_reducible (first | exact At.here | assumption | exact At.skip (by decide) (by walk_at "mine:at"))
  k_with "m:eval Name" => (k_here; (with_reducible fail_if_success show wpAny _ _ (eval _ (compEnvC _ _ _ _)) _ _ _); (with_reducible fail_if_success show wpAny _ _ (eval _ (compEnv _ _ _)) _ _ _); (with_reducible fail_if_success show wpAny _ _ (eval _ (envOfC _ _ _ _ _)) _ _ _); (with_reducible rename At _ _ _ => hAt'); k_dflt (refine' ldA (by (k_asm)) (by (walk_at "mine:at")) ?_))
  k_with "m:loadName" => (k_here; (with_reducible fail_if_success show wpAny _ _ (loadName (envOfC _ _ _ _ _) _) _ _ _); (with_reducible rename At _ _ _ => hAt'); k_dflt (refine' ldnA (by (k_asm)) (by (walk_at "mine:at")) ?_))
  k_with "m:subscriptTail" => (k_here; (with_reducible show wpAny _ _ (subscriptTail _ _ (Value.ref _) (Value.int (-1) _)) _ _ _); k_dflt (refine' item_last (by (k_asm)) (by (k_mem)) ?_))
  k_with "m:mine:enterC" => (refine' code_defC (by (k_asm)) (by (k_asm)) (by (k_asm)) (by (k_asm)) (by (k_asm)) (by (exact rfl)) (by (exact rfl)) (by (assumption)) (by (k_is)) (by (k_is)) (by (ktr_room)) (by (exact BindsTo.of_eq rfl)) (by (exact rfl)) (by (decide +kernel)) ?_ (by (exact rfl)) (by (exact rfl)) (by (exact rfl)); k_whole; intro g' L' h' tk' cells' FG' F' N' Y' B' X' T' l1; (have hL9 := Lts.mk' l1; (repeat (replace hL9 := Lts.drop hL9))); (try k_lt l1); k_cells Y'; (try simp only [List.cons_append, List.nil_append] at N'); (try dsimp only); (try k_lift B'); (try k_fold))
  k_with "m:call ref" => (k_here; (with_reducible show wpAny _ _ (call (Value.ref 94) [Value.bytes _ _]) _ _ _); k_dflt (refine' Claim.use (fspath_ok _ _) (by (k_asm)) (by (k_asm)) (by (k_asm)) (by (k_asm)) (by (k_asm)) (by (first | exact rfl | assumption)) (by (ktr_room)) (by (ktr_units)) ?_); intro v h' tk' hv F' N'; subst hv; (try dsimp only); (try k_fold))
  k_with "m:call ref" => (k_here; (with_reducible show wpAny _ _ (call (Value.ref 108) [Value.bytes _ _]) _ _ _); k_dflt (refine' Claim.use (get_sep_ok _ _) (by (k_asm)) (by (k_asm)) (by (k_asm)) (by (k_asm)) (by (k_asm)) (by (first | exact rfl | assumption)) (by (ktr_room)) (by (ktr_units)) ?_); intro v h' tk' hv F' N'; (obtain ⟨t9, hv⟩ := hv); subst hv; (try dsimp only); (try k_fold))
  k_with "m:call ref" => (k_here; (with_reducible show wpAny _ _ (call (Value.ref 122) [Value.bytes _ _]) _ _ _); k_dflt (refine' Claim.use (dirname_ok _ _ (by (walk_at "mine:size"))) (by (k_asm)) (by (k_asm)) (by (k_asm)) (by (k_asm)) (by (k_asm)) (by (first | exact rfl | assumption)) (by (ktr_room)) (by (ktr_units)) ?_); intro v h' tk' hv F' N'; (obtain ⟨t9, hv⟩ := hv); subst hv; (try dsimp only); (try k_fold))
  k_with "m:call ref" => (k_here; (with_reducible show wpAny _ _ (call (Value.ref 127) [Value.ref _]) _ _ _); k_dflt (refine' common_use (by (k_asm)) (by (k_asm)) (by (k_asm)) (by (k_asm)) (by (k_asm)) (by (first | exact rfl | assumption)) (by (walk_at "mine:size")) (by (walk_at "mine:size")) (by (assumption)) (by (assumption)) (by (ktr_room)) (by (ktr_units)) ?_); intro v h' tk' hv F' N'; (obtain ⟨t9, hv⟩ := hv); subst hv; (try dsimp only); (try k_fold))
  k_with "m:eval Name" => (k_here; (with_reducible show wpAny _ _ (eval _ (envOfC _ _ _ _ _)) _ _ _); (with_reducible rename At _ _ _ => hAt'); k_dflt (refine' ldX (by (k_asm)) (by (walk_at "mine:at")) ?_ (by (rfl)) (by (rfl))))
  k_with "m:mine:k_all" => ((with_reducible rename Lts _ _ => hL8); exact Lts.ne hL8 (by omega))
  k_with "m:mine:fn" => (refine' fn_at (by (k_asm)) (by (k_asm)) (by (k_is)))
  k_with "m:mine:argument" => (refine callWith_refP (splConsP ?_); refine wpP.of_any ?_; k_steps; (all_goals (try k_data)); refine splNilP ?_; refine ⟨by walk_at "mine:fn", ?_⟩)
  k_with "m:mine:mirror" => (k_dflt (refine' ClaimP.use (cn := Str.ofString "law") (mirror_ok _ _ (by (assumption))) (by (k_asm)) (by (k_asm)) (by (k_asm)) (by (k_asm)) (by (k_asm)) (by (first | exact rfl | assumption)) (by (ktr_room)) (by (ktr_units)) ?_); (all_goals (try k_data)); intro v h' tk' hv F' N'; (obtain ⟨t9, hv⟩ := hv); subst hv; dsimp only)
  k_with "m:mine:mem" => first | k_mem | (with_reducible assumption) | (refine List.mem_cons_of_mem _ ?_; walk_at "mine:mem")
  k_with "m:subscriptTail Name Slice ref ref" => (k_here; (with_reducible show wpAny _ _ (subscriptTail _ (PySem.Expr.Slice none (some _) none _) (PySem.Value.ref _) (PySem.Value.ref _)) _ _ _); k_dflt (refine' slice_upN (s := ⟨_, _, _, _, _⟩) (by (k_asm)) (by (k_asm)) (by (walk_at "mine:mem")) (by (assumption)) (by (constructor)) (by (omega)) ?_); intro D' h' us' hU' F' N' l1'; (try dsimp only); (try k_fold))
  k_with "m:subscriptTail Name Slice ref ref" => (k_here; (with_reducible show wpAny _ _ (subscriptTail _ (PySem.Expr.Slice (some _) none none _) (PySem.Value.ref _) (PySem.Value.ref _)) _ _ _); k_dflt (refine' slice_fromN (s := ⟨_, _, _, _, _⟩) (by (k_asm)) (by (k_asm)) (by (walk_at "mine:mem")) (by (assumption)) (by (constructor)) (by (omega)) ?_); intro D' h' us' hU' F' N' l1'; (try dsimp only); (try k_fold))
  k_with "m:subscriptTail Name Slice ref ref" => (k_here; (with_reducible show wpAny _ _ (subscriptTail _ (PySem.Expr.Slice (some _) (some _) none _) (PySem.Value.ref _) (PySem.Value.ref _)) _ _ _); k_dflt (refine' slice_bothN (s := ⟨_, _, _, _, _⟩) (by (k_asm)) (by (k_asm)) (by (walk_at "mine:mem")) (by (assumption)) (by (constructor)) (by (constructor)) (by (omega)) (by (omega)) (by (omega)) ?_); intro D' h' us' hU' F' N' l1'; (try dsimp only); (try k_fold))
  k_with "m:call builtin:bytes.join" => (k_here; (show wpAny _ _ (call (PySem.Value.builtin "bytes.join") [PySem.Value.bytes _ _, PySem.Value.ref _]) _ _ _); k_dflt (refine' join_N (by (k_asm)) (by (walk_at "mine:mem")) (by (with_reducible assumption)) ?_); intro t' _; (try dsimp only))
  k_with "m:eval Name" => (k_here; (with_reducible show wpAny _ _ (eval (PySem.Expr.Name (Str.ofString "size") _) (envOfC _ _ _ _ _)) _ _ _); k_dflt (refine' nameX_C (x := Str.ofString "size") (by (k_asm)) (by (rfl)) (by (k_mem)) (by (k_asm)) ?_ (by (rfl)) (by (rfl)); k_whole))
  k_with "m:eval Name" => (k_here; (with_reducible show wpAny _ _ (eval (PySem.Expr.Name (Str.ofString "names") _) (envOfC _ _ _ _ _)) _ _ _); k_dflt (refine' nameX_C (x := Str.ofString "names") (by (k_asm)) (by (rfl)) (by (k_mem)) (by (k_asm)) ?_ (by (rfl)) (by (rfl)); k_whole))
  k_with "m:eval Name" => (k_here; (with_reducible show wpAny _ _ (eval (PySem.Expr.Name (Str.ofString "names") _) (compEnvC _ _ _ _)) _ _ _); k_dflt (refine' compC_free (x := Str.ofString "names") (by (k_asm)) (by (rfl)) (by (k_mem)) (by (k_asm)) ?_ (by (rfl)) (by (rfl)) (by (decide)); k_whole))
  k_with "m:eval Name" => (k_here; (with_reducible show wpAny _ _ (eval (PySem.Expr.Name (Str.ofString "size") _) (compEnvC _ _ _ _)) _ _ _); k_dflt (refine' compC_free (x := Str.ofString "size") (by (k_asm)) (by (rfl)) (by (k_mem)) (by (k_asm)) ?_ (by (rfl)) (by (rfl)) (by (decide)); k_whole))
  k_with "m:eval Name" => (k_here; (with_reducible show wpAny _ _ (eval (PySem.Expr.Name (Str.ofString "whole") _) (compEnvC _ _ _ _)) _ _ _); k_dflt (refine' compC_free (x := Str.ofString "whole") (by (k_asm)) (by (rfl)) (by (k_mem)) (by (k_asm)) ?_ (by (rfl)) (by (rfl)) (by (decide)); k_whole))
  k_with "m:eval Name" => (k_here; (with_reducible show wpAny _ _ (eval (PySem.Expr.Name (Str.ofString "whole") _) (envOfC _ _ _ _ _)) _ _ _); k_dflt (refine' nameX_C (x := Str.ofString "whole") (by (k_asm)) (by (rfl)) (by (k_mem)) (by (k_asm)) ?_ (by (rfl)) (by (rfl)); k_whole))
  k_with "m:mine:k_ne" => (refine neN ?_; (try dsimp only); first | assumption | (refine Ne.symm ?_; assumption))
  k_with "m:mine:k_all" => with_reducible assumption
  k_with "m:eval ListComp" => refine Stop.go ?_
  k_with "m:compareOp NotIn" => refine Stop.go ?_
  k_with "m:binaryOp Add ref ref" => refine Stop.go ?_
  trivial
section
theorem datIn_d2 {tw : List (Addr × Obj)} {v : PySem.Value} {q : T2} (h : DatIn tw v (d2 q)) : ∃ t u1 u2 n, v = .ref t ∧ (t, tupObj [PySem.Value.int (q.1 : Int) u1, PySem.Value.int (q.2 : Int) u2] n) ∈ tw := by
  unfold d2 at h
  cases h with
  | tuple hm hA =>
    cases hA with
    | cons h1 h2 =>
      cases h1
      cases h2 with
      | cons h3 h4 =>
        cases h3
        cases h4
        exact ⟨_, _, _, _, rfl, hm⟩
theorem whole_get {tw : List (Addr × Obj)} {vs : List PySem.Value} {wl : List T2} (h : DatAll tw vs (wl.map d2)) {i : Nat} {v : PySem.Value} (hv : vs[i]? = some v) : ∃ q, wl[i]? = some q ∧ DatIn tw v (d2 q) := by
  have hl := h.length
  rw [List.length_map] at hl
  have hi : i < vs.length := (List.getElem?_eq_some_iff.mp hv).1
  obtain ⟨v', h1, h2⟩ := h.get (k := i) (by rw [List.length_map]; omega)
  rw [h1] at hv
  cases hv
  refine ⟨wl[i]'(by omega), List.getElem?_eq_getElem _, ?_⟩
  rwa [List.getElem_map] at h2
theorem d2_ok (l : List T2) : ∀ d ∈ l.map d2, kqdOk 8 d = true := by
  intro d hd
  obtain ⟨x, _, rfl⟩ := List.mem_map.mp hd
  rfl
theorem d2_less {f l : Nat} {w : List T2} : Dat.tuple [.int ((f : Int) - 1), .int (l : Int)] ∈ w.map d2 ↔ f ≠ 0 ∧ (f - 1, l) ∈ w := by
  constructor
  · intro h
    obtain ⟨⟨a, b⟩, hq, e⟩ := List.mem_map.mp h
    simp only [d2, Dat.tuple.injEq, List.cons.injEq, Dat.int.injEq, and_true] at e
    obtain ⟨e1, e2⟩ := e
    have h0 : f ≠ 0 := by omega
    refine ⟨h0, ?_⟩
    have : f - 1 = a := by omega
    have : l = b := by omega
    subst_vars
    exact hq
  · rintro ⟨h0, h⟩
    have e : Dat.tuple [.int ((f : Int) - 1), .int (l : Int)] = d2 (f - 1, l) := by
      unfold d2
      have : ((f : Int) - 1) = ((f - 1 : Nat) : Int) := by omega
      rw [this]
    rw [e]
    exact d2_mem.mpr h
theorem d2_more {f l : Nat} {w : List T2} : Dat.tuple [.int (f : Int), .int ((l : Int) + 1)] ∈ w.map d2 ↔ (f, l + 1) ∈ w := d2_mem (a := (f, l + 1))
/-- between the turns that fill due -/
noncomputable def DuJ (base : List (Addr × Obj)) (Away : Addr → Prop) (sz : Nat) (wl : List T2) (i : Nat) (ys : List PySem.Value) (nw : List (Addr × Obj)) : Prop :=
  ∃ tu, nw = tu ++ base ∧ (∀ e ∈ tu, Away e.1) ∧ DatAll tu ys ((((wl.take i).filter (duOk wl)).map fun q => ((sz, q.1, q.2) : T3)).map d3) ∧ ys.length ≤ i
theorem DuJ.has {base nw : List (Addr × Obj)} {Away : Addr → Prop} {sz i : Nat} {wl : List T2} {ys : List PySem.Value} (h : DuJ base Away sz wl i ys nw) : ∀ e ∈ base, e ∈ nw := by
  obtain ⟨tw, rfl, _⟩ := h
  exact fun e he => List.mem_append_right _ he
theorem du_take {wl : List T2} {i : Nat} {q : T2} (hq : wl[i]? = some q) : (wl.take (i + 1)).filter (duOk wl) = (wl.take i).filter (duOk wl) ++ if duOk wl q = true then [q] else [] := by
  rw [List.take_add_one, hq, List.filter_append, Option.toList_some, List.filter_cons, List.filter_nil]
theorem DuJ.skip {base nw : List (Addr × Obj)} {Away : Addr → Prop} {sz i : Nat} {wl : List T2} {ys : List PySem.Value} {q : T2} (h : DuJ base Away sz wl i ys nw) (hq : wl[i]? = some q) (ho : duOk wl q = false) : DuJ base Away sz wl (i + 1) ys nw := by
  obtain ⟨tu, h1, h2, h3, h4⟩ := h
  refine ⟨tu, h1, h2, ?_, by omega⟩
  rw [du_take hq, ho, if_neg (by decide), List.append_nil]
  exact h3
theorem DuJ.next {base nw : List (Addr × Obj)} {Away : Addr → Prop} {sz i : Nat} {wl : List T2} {ys : List PySem.Value} {q : T2} {t : Addr} {u v x : Tok} {n : Nat} (h : DuJ base Away sz wl i ys nw) (hq : wl[i]? = some q) (ho : duOk wl q = true) (ha : Away t) :
    DuJ base Away sz wl (i + 1) (ys ++ [.ref t]) ((t, { cls := .type "tuple", data := .seq #[PySem.Value.int (sz : Int) u, PySem.Value.int (q.1 : Int) v, PySem.Value.int (q.2 : Int) x] n }) :: nw) := by
  obtain ⟨tu, h1, h2, h3, h4⟩ := h
  refine ⟨(t, _) :: tu, by rw [h1]; rfl, ?_, ?_, by rw [List.length_append, List.length_singleton]; omega⟩
  · intro e he
    rcases List.mem_cons.mp he with rfl | he
    · exact ha
    · exact h2 e he
  · rw [du_take hq, ho, if_pos rfl, List.map_append, List.map_append]
    exact (h3.mono fun q hq => List.mem_cons_of_mem _ hq).append (DatAll.one dat_head)
theorem News.reorder4 {h₀ h : Heap} {L : Addr} {a x1 x2 b c d y1 y2 y3 : Addr × Obj} {tl : List (Addr × Obj)} (N : News h₀ L h (a :: x1 :: x2 :: b :: c :: d :: y1 :: y2 :: y3 :: tl)) : News h₀ L h (b :: c :: d :: a :: tl) := News.less (fun q hq => by
  simp only [List.mem_cons] at hq ⊢
  rcases hq with h | h | h | h | h <;> simp only [h, true_or, or_true]) N
theorem wh_len {sz : Nat} {bs : List Bool} : (wh sz bs 8).length ≤ 100 := by
  have row : ∀ f, (whRow sz bs f (9 - (f + 2 * sz))).length ≤ 9 := fun f => by
    unfold whRow
    refine Nat.le_trans (List.length_filter_le _ _) ?_
    rw [List.length_map, List.length_range]; omega
  have : ∀ k, (wh sz bs k).length ≤ 9 * k := fun k => by
    induction k with
    | zero => simp [wh]
    | succ k ih =>
      unfold wh at ih ⊢
      rw [List.range_succ, List.flatMap_append, List.length_append]
      have := row k
      simp only [List.flatMap_singleton]
      omega
  have := this 8
  omega
set_option maxRecDepth 100000 in
set_option maxHeartbeats 4000000 in
theorem law_rest2 (w : World) (mean : ExcName → Option PySem.Value) (mg mb : Str → Option PySem.Value) (h₀ : Heap) (L fa lr lf ln lo lu I1 D : Addr) (cd : PySem.Value) (yw vu : List PySem.Value) (ns : List (Array UInt8)) (dl : List T3) (nu sz : Nat) (ts : Tok) (oI1 oo oF oR oN o4 o5 o6 : Obj) (tw tl : List (Addr × Obj)) (Away : Addr → Prop) (m : Str → Option PySem.Value) (s : Shared) (Q : Flow → Shared → Prop)
    (B : Below callerA h₀ [] h₀) (X : (Mine.lawK w.params).In h₀) (T : Top Mine.hd.view_1_2 (looseW Mine.hd.view_1_2 []) mean mg mb h₀)
    (hW : DatAll tw yw ((wh sz (bits ns sz) 8).map d2)) (hD : DatAll tl vu (dl.map d3)) (hdl : dl.length ≤ 10000)
    (d5 : o5.data = .cell (some (.int (sz : Int) ts))) (d6 : o6.data = .cell (some (.ref D)))
    (hr : At m (Str.ofString "rests") (.ref lr)) (hf : At m (Str.ofString "fronts") (.ref lf)) (ho : At m (Str.ofString "found") (.ref lo)) (hu : At m (Str.ofString "due") (.ref lu))
    (a6 : ∀ t, (∀ q ∈ (I1, oI1) :: (lo, oo) :: (lu, listOf vu.toArray nu) :: (lf, oF) :: (lr, oR) :: (ln, oN) :: (L + 1 + 1 + 1 + 1 + 1 + 1, o6) :: (L + 1 + 1 + 1 + 1 + 1, o5) :: (L + 1 + 1 + 1 + 1, o4) :: (tw ++ tl), @LT.lt Nat _ q.1 t) → Away t)
    (a5 : ∀ q ∈ tl, Away q.1) (a8 : ∀ q ∈ tw, Away q.1)
    (F : Fr h₀ L s.heap m) (N : News h₀ L s.heap ((D, lstN yw) :: (I1, oI1) :: (lo, oo) :: (lu, listOf vu.toArray nu) :: (lf, oF) :: (lr, oR) :: (ln, oN) :: (L + 1 + 1 + 1 + 1 + 1 + 1, o6) :: (L + 1 + 1 + 1 + 1 + 1, o5) :: (L + 1 + 1 + 1 + 1, o4) :: (tw ++ tl)))
    (k : ∀ (lu' : Addr) (vu' : List PySem.Value) (nu' : Nat) (tl' : List (Addr × Obj)) (m' : Str → Option PySem.Value) (h : Heap) (tk : Nat), Away lu' → At m' (Str.ofString "rests") (.ref lr) → At m' (Str.ofString "fronts") (.ref lf) → At m' (Str.ofString "found") (.ref lo) → At m' (Str.ofString "due") (.ref lu') →
      DatAll tl' vu' ((dl ++ du sz (bits ns sz)).map d3) → (∀ q ∈ tl, q ∈ tl') → (∀ q ∈ tl', Away q.1) → Fr h₀ L h m' →
      News h₀ L h ((I1, oI1) :: (lo, oo) :: (lu', listOf vu'.toArray nu') :: (lf, oF) :: (lr, oR) :: (ln, oN) :: (L + 1 + 1 + 1 + 1 + 1 + 1, o6) :: (L + 1 + 1 + 1 + 1 + 1, o5) :: (L + 1 + 1 + 1 + 1, o4) :: tl') →
      Q .next { s with heap := h, toks := tk }) :
    wpP Clean (model PySem.Challenge.rw_pd0128_01.row.prog w) (callerA.deeper (envOfC (Str.ofString "law") lawScope L fa cd)) (execs (restBody.drop 1) (envOfC (Str.ofString "law") lawScope L fa cd)) Q (fun _ _ => False) s := by
  revert X
  k_fill
  intro X
  unfold restBody outerBody lawBody lawScope lawRec
  dsimp only [List.drop, firstOf, forBody]
  refine execsP ?_
  refine wpP.of_any ?_
  k_steps
  all_goals (try k_data)
  refine wpP.any (eval_LCG every_kept (by with_unfolding_all rfl) rfl (by decide) (by intro _; rfl) ?_)
  refine wpP.of_any ?_
  k_steps
  all_goals (try k_data)
  (with_reducible rename Fr _ _ _ _ => F₁)
  (with_reducible rename News _ _ _ _ => N₁)
  have hwl := wh_len (sz := sz) (bs := bits ns sz)
  generalize hwe : wh sz (bits ns sz) 8 = wl at hW hwl
  have hyl : yw.length = wl.length := by have := hW.length; rwa [List.length_map] at this
  refine comp_pair every_kept rfl (by decide) rfl (by rfl) (by rfl) (by decide) F₁ N₁ (a := D) (vs := yw) (k := yw.length) List.mem_cons_self (by omega)
    (fun i ys nw => DuJ ((D, lstN yw) :: (I1, oI1) :: (lo, oo) :: (lu, listOf vu.toArray nu) :: (lf, oF) :: (lr, oR) :: (ln, oN) :: (L + 1 + 1 + 1 + 1 + 1 + 1, o6) :: (L + 1 + 1 + 1 + 1 + 1, o5) :: (L + 1 + 1 + 1 + 1, o4) :: (tw ++ tl)) Away sz wl i ys nw) ?hkeep ?hlen ?h0 ?turn ?fin
  case hkeep => exact fun i ys nw h => h.has _ List.mem_cons_self
  case hlen =>
    rintro i ys nw ⟨_, _, _, _, h⟩
    exact h
  case h0 => exact ⟨[], rfl, (by intro e he; cases he), (by simp; exact .nil), Nat.le_refl _⟩
  case turn =>
    rintro i v ys nw hv hJ
    obtain ⟨q, hq, hI⟩ := whole_get hW hv
    obtain ⟨t, u1, u2, n, rfl, hm⟩ := datIn_d2 hI
    have hJh := hJ.has
    have hTw : ∀ p ∈ tw, p ∈ nw := fun p hp => hJh p (by simp only [List.mem_cons, List.mem_append, hp, true_or, or_true])
    refine ⟨t, _, _, n, rfl, hTw _ hm, ?_⟩
    intro h₁ tk₁ I oI C oC E₁ m₂ off ne hoC hx hy F₂ N₂
    clear ne
    have N₃ : News h₀ L h₁ ((I, oI) :: (C, oC) :: (E₁, lstN ys) :: (D, lstN yw) :: (L + 1 + 1 + 1 + 1 + 1, o5) :: (L + 1 + 1 + 1 + 1 + 1 + 1, o6) :: nw) := News.less (fun q hq => by
      simp only [List.mem_cons] at hq ⊢
      rcases hq with h | h | h | h | h | h | h
      · exact .inl h
      · exact .inr (.inl h)
      · exact .inr (.inr (.inl h))
      · rw [h]; exact .inr (.inr (.inr (hJh _ (by simp))))
      · rw [h]; exact .inr (.inr (.inr (hJh _ (by simp))))
      · rw [h]; exact .inr (.inr (.inr (hJh _ (by simp))))
      · exact .inr (.inr (.inr h))) N₂
    clear F₁ N₁ N₂
    refine Tests_one ?_
    refine wpP.of_any ?_
    k_steps
    all_goals (try k_data)
    (with_reducible rename News _ _ _ _ => N₅)
    refine notIn_D (d := Dat.tuple [.int ((q.1 : Int) - 1), .int (q.2 : Int)]) N₅ (by k_mem) hW (by intro p hp; have hp := hTw p hp; repeat (first | exact hp | refine List.mem_cons_of_mem _ ?_)) (DatIn.tuple (vs := [PySem.Value.int _ _, PySem.Value.int _ _]) List.mem_cons_self (.cons (.int _ _) (.cons (.int _ _) .nil))) (fun q hq => hq) (d2_ok _) rfl (by ke_room) ?_
    intro bb hbb
    rw [d2_less] at hbb
    by_cases c1 : q.1 ≠ 0 ∧ (q.1 - 1, q.2) ∈ wl
    · rw [hbb.mpr c1]
      k_steps
      all_goals (try k_data)
      refine CEnd.intro nw (by assumption) N₅ ?_ off (hJ.skip hq ?_)
      · intro p hp
        simp only [List.mem_cons] at hp ⊢
        rcases hp with h | h | h | h <;> simp only [h, true_or, or_true]
      · unfold duOk
        rw [decide_eq_true c1]
        rfl
    · rw [Bool.eq_false_iff.mpr fun x => c1 (hbb.mp x)]
      k_steps
      all_goals (try k_data)
      (with_reducible rename News _ _ _ _ => N₆)
      refine notIn_D (d := Dat.tuple [.int (q.1 : Int), .int ((q.2 : Int) + 1)]) N₆ (by k_mem) hW (by intro p hp; have hp := hTw p hp; repeat (first | exact hp | refine List.mem_cons_of_mem _ ?_)) (DatIn.tuple (vs := [PySem.Value.int _ _, PySem.Value.int _ _]) List.mem_cons_self (.cons (.int _ _) (.cons (.int _ _) .nil))) (fun q hq => hq) (d2_ok _) rfl (by ke_room) ?_
      intro bc hbc
      rw [d2_more] at hbc
      by_cases c2 : (q.1, q.2 + 1) ∈ wl
      · rw [hbc.mpr c2]
        k_steps
        all_goals (try k_data)
        refine CEnd.intro nw (by assumption) N₆ ?_ off (hJ.skip hq ?_)
        · intro p hp
          simp only [List.mem_cons] at hp ⊢
          rcases hp with h | h | h | h <;> simp only [h, true_or, or_true]
        · unfold duOk
          rw [decide_eq_true c2]
          simp
      · rw [Bool.eq_false_iff.mpr fun x => c2 (hbc.mp x)]
        k_steps
        all_goals (try k_data)
        refine wpP.of_any ?_
        k_steps
        all_goals (try k_data)
        (with_reducible rename News _ _ _ _ => N₇)
        (rename _ ∧ _ => lD)
        have lN := lt_of_allLt lD.2.2.2.2.2.2.2.2
        refine CEnd.intro _ (by assumption) (News.reorder4 N₇) (fun p hp => hp) ?_ (hJ.next hq ?_ ?_)
        · intro p hp
          rcases List.mem_cons.mp hp with rfl | hp
          · exact ⟨Ne.symm (Nat.ne_of_lt lD.2.2.1), Ne.symm (Nat.ne_of_lt lD.2.2.2.1), Ne.symm (Nat.ne_of_lt lD.2.2.2.2.1)⟩
          · exact off p hp
        · unfold duOk
          rw [decide_eq_false c1, decide_eq_false c2]
          rfl
        · exact a6 _ fun q hq => lN q (hJh q (List.mem_cons_of_mem _ hq))
  case fin =>
    rintro ys nw ⟨tu, rfl, h2, h3, -⟩
    refine CFin.eval ?_
    intro E₁ h₂ tk₂ F₂ N₂ off
    rw [hyl, List.take_length] at h3
    clear F₁ N₁
    have z1 := hD.length
    have z2 := h3.length
    rw [List.length_map] at z1
    rw [List.length_map, List.length_map] at z2
    have z3 := List.length_filter_le (duOk wl) wl
    refine kmk_add_lit F₂ N₂ (isL N₂ (n := nu) (vs := vu) (by simp only [List.mem_cons, List.mem_append, true_or, or_true])) (isL N₂ List.mem_cons_self) rfl ?_ (by rw [sizeLine_eq]; simp only; omega)
    intro lu' h₃ F₃ N₃ l1
    have hdu : du sz (bits ns sz) = ((wl.filter (duOk wl)).map fun q => ((sz, q.1, q.2) : T3)) := by unfold du; rw [hwe]
    have hAw : Away lu' := a6 _ fun q hq => l1 q (List.mem_cons_of_mem _ (List.mem_append_right _ (List.mem_cons_of_mem _ hq)))
    k_steps
    all_goals (try k_data)
    dsimp only
    refine wpP.of_any ?_
    k_steps
    all_goals (try k_data)
    (with_reducible rename News _ _ _ _ => N₅)
    refine k lu' (vu ++ ys) 0 (tu ++ (tw ++ tl)) _ _ _ hAw ?g1 ?g2 ?g3 ?g4 ?g5 ?g6 ?g7 (by assumption) (News.less ?g8 N₅)
    case g5 =>
      rw [List.map_append, hdu]
      exact (hD.mono fun q hq => List.mem_append_right _ (List.mem_append_right _ hq)).append (h3.mono fun q hq => List.mem_append_left _ hq)
    case g6 => exact fun q hq => List.mem_append_right _ (List.mem_append_right _ hq)
    case g7 =>
      intro q hq
      rcases List.mem_append.mp hq with hq | hq
      · exact h2 q hq
      · rcases List.mem_append.mp hq with hq | hq
        · exact a8 q hq
        · exact a5 q hq
    case g8 =>
      intro q hq
      simp only [List.mem_cons, List.mem_append] at hq ⊢
      rcases hq with h | h | h | h | h | h | h | h | h | h | h | h <;> simp only [h, true_or, or_true]
    all_goals walk_at "mine:at"
end
theorem rules_L9 : True := by
  k_with_none
  k_with "m:call type:type" => (k_here; (with_reducible show wpAny _ _ (call (Value.type "type") [Value.bytes _ _]) _ _ _); (refine type_bytes ?_))
  k_with "m:call builtin:issubclass" => (k_here; (show wpAny _ _ (call (Value.builtin "issubclass") [Value.type "bytes", Value.ref _]) _ _ _); k_dflt (refine' issub_N (by (k_asm)) (by (k_mem)) ?_))
  k_with "m:mine:news" => first | assumption | (refine cb_drop (by assumption) ?_; intro p hp; repeat (first | exact hp | refine List.mem_cons_of_mem _ ?_))
  k_with "m:mine:size" => first | omega | (simp only [Array.size_append, List.size_toArray, List.length_cons, List.length_nil] at *; omega)
  k_with "m:getMethod bytes" => (k_here; (with_reducible first | refine meth FB.slot_bytes_startswith FB.type_bytes_startswith ?_ | refine meth FB.slot_bytes_endswith FB.type_bytes_endswith ?_ | refine meth slot_rfind type_rfind ?_ | refine meth slot_rstrip type_rstrip ?_ | refine meth slot_split type_split ?_ | refine meth slot_join type_join ?_))
  k_with "m:call builtin:bytes.startswith" => (k_here; (show wpAny _ _ (call (Value.builtin "bytes.startswith") [Value.bytes _ _, Value.bytes _ _]) _ _ _); (refine call_starts ?_))
  k_with "m:call builtin:bytes.endswith" => (k_here; (show wpAny _ _ (call (Value.builtin "bytes.endswith") [Value.bytes _ _, Value.bytes _ _]) _ _ _); (refine call_ends ?_))
  k_with "m:call builtin:bytes.rfind" => (k_here; (show wpAny _ _ (call (Value.builtin "bytes.rfind") [Value.bytes _ _, Value.bytes _ _]) _ _ _); (refine call_rfind ?_))
  k_with "m:call builtin:bytes.rstrip" => (k_here; (show wpAny _ _ (call (Value.builtin "bytes.rstrip") [Value.bytes _ _, Value.bytes _ _]) _ _ _); (refine call_rstrip (by walk_at "mine:size") ?_); intro _ _)
  k_with "m:truthy bytes" => (k_here; (with_reducible show wpAny _ _ (truthy (Value.bytes _ _)) _ _ _); (refine truthy_bytes (by walk_at "mine:size") ?_))
  k_with "m:call builtin:len" => (k_here; (show wpAny _ _ (call (Value.builtin "len") [Value.bytes _ _]) _ _ _); (refine len_bytes (by walk_at "mine:size") ?_))
  k_with "m:subscriptTail" => (k_here; (with_reducible show wpAny _ _ (subscriptTail _ (Expr.Slice _ _ none _) (Value.bytes _ _) (Value.ref _)) _ _ _); (with_reducible rename Fr _ _ _ _ => F'); (with_reducible rename News _ _ _ _ => N'); (refine slice_B (s := ⟨_, _, _, _, _⟩) F' N' (by constructor) (by constructor) (by walk_at "mine:size") ?_); intro _ _ _ F' N' hsz')
  k_with "m:binaryOp Mult bytes int" => (k_here; (with_reducible show wpAny _ _ (binaryOp Operator.Mult (Value.bytes _ _) (Value.int _ _)) _ _ _); (refine mul_one (by omega) (by walk_at "mine:size") ?_); intro _ _)
  k_with "m:binaryOp Add bytes bytes" => (k_here; (with_reducible show wpAny _ _ (binaryOp Operator.Add (Value.bytes _ _) (Value.bytes _ _)) _ _ _); (refine KBy.add_bytes (by walk_at "mine:size") ?_); intro _ _)
  k_with "m:compareOp NotEq bytes bytes" => (k_here; (refine ne_bytes ?_))
  k_with "m:compareOp Eq bytes bytes" => (k_here; (refine eq_bytes ?_))
  k_with "m:exec Try" => (k_here; (refine Try_calm ?_))
  k_with "m:mine:passes_own" => exact fun _ _ h => (show False from h).elim
  k_with "m:inplaceOp Add" => (k_here; (with_reducible show wpAny _ _ (inplaceOp Operator.Add (Value.bytes _ _) (Value.bytes _ _)) _ _ _); (refine iadd_bytes (by walk_at "mine:size") ?_); intro _ _)
  k_with "m:call builtin:bytes.split" => (k_here; (show wpAny _ _ (call (Value.builtin "bytes.split") [Value.bytes _ _, Value.bytes _ _]) _ _ _); k_dflt (refine' call_split1 (by (k_asm)) (by (k_asm)) (by (walk_at "mine:size")) ?_); intro l' h' vs' k' hv' hn' F' N' l1'; (try dsimp only))
  k_with "m:call builtin:len" => (k_here; (show wpAny _ _ (call (Value.builtin "len") [Value.ref _]) _ _ _); k_dflt (refine' len_L (by (k_asm)) (by (k_mem)) (by (omega)) ?_); intro _ _)
  k_with "m:mine:at" => with_reducible (first | exact At.here | assumption | exact At.skip (by decide) (by walk_at "mine:at"))
  k_with "m:eval Name" => (k_here; (with_reducible fail_if_success show wpAny _ _ (eval _ (compEnvC _ _ _ _)) _ _ _); (with_reducible fail_if_success show wpAny _ _ (eval _ (compEnv _ _ _)) _ _ _); (with_reducible fail_if_success show wpAny _ _ (eval _ (envOfC _ _ _ _ _)) _ _ _); (with_reducible rename At _ _ _ => hAt'); k_dflt (refine' ldA (by (k_asm)) (by (walk_at "mine:at")) ?_))
  k_with "m:loadName" => (k_here; (with_reducible fail_if_success show wpAny _ _ (loadName (envOfC _ _ _ _ _) _) _ _ _); (with_reducible rename At _ _ _ => hAt'); k_dflt (refine' ldnA (by (k_asm)) (by (walk_at "mine:at")) ?_))
  k_with "m:subscriptTail" => (k_here; (with_reducible show wpAny _ _ (subscriptTail _ _ (Value.ref _) (Value.int (-1) _)) _ _ _); k_dflt (refine' item_last (by (k_asm)) (by (k_mem)) ?_))
  k_with "m:mine:enterC" => (refine' code_defC (by (k_asm)) (by (k_asm)) (by (k_asm)) (by (k_asm)) (by (k_asm)) (by (exact rfl)) (by (exact rfl)) (by (assumption)) (by (k_is)) (by (k_is)) (by (ktr_room)) (by (exact BindsTo.of_eq rfl)) (by (exact rfl)) (by (decide +kernel)) ?_ (by (exact rfl)) (by (exact rfl)) (by (exact rfl)); k_whole; intro g' L' h' tk' cells' FG' F' N' Y' B' X' T' l1; (have hL9 := Lts.mk' l1; (repeat (replace hL9 := Lts.drop hL9))); (try k_lt l1); k_cells Y'; (try simp only [List.cons_append, List.nil_append] at N'); (try dsimp only); (try k_lift B'); (try k_fold))
  k_with "m:call ref" => (k_here; (with_reducible show wpAny _ _ (call (Value.ref 94) [Value.bytes _ _]) _ _ _); k_dflt (refine' Claim.use (fspath_ok _ _) (by (k_asm)) (by (k_asm)) (by (k_asm)) (by (k_asm)) (by (k_asm)) (by (first | exact rfl | assumption)) (by (ktr_room)) (by (ktr_units)) ?_); intro v h' tk' hv F' N'; subst hv; (try dsimp only); (try k_fold))
  k_with "m:call ref" => (k_here; (with_reducible show wpAny _ _ (call (Value.ref 108) [Value.bytes _ _]) _ _ _); k_dflt (refine' Claim.use (get_sep_ok _ _) (by (k_asm)) (by (k_asm)) (by (k_asm)) (by (k_asm)) (by (k_asm)) (by (first | exact rfl | assumption)) (by (ktr_room)) (by (ktr_units)) ?_); intro v h' tk' hv F' N'; (obtain ⟨t9, hv⟩ := hv); subst hv; (try dsimp only); (try k_fold))
  k_with "m:call ref" => (k_here; (with_reducible show wpAny _ _ (call (Value.ref 122) [Value.bytes _ _]) _ _ _); k_dflt (refine' Claim.use (dirname_ok _ _ (by (walk_at "mine:size"))) (by (k_asm)) (by (k_asm)) (by (k_asm)) (by (k_asm)) (by (k_asm)) (by (first | exact rfl | assumption)) (by (ktr_room)) (by (ktr_units)) ?_); intro v h' tk' hv F' N'; (obtain ⟨t9, hv⟩ := hv); subst hv; (try dsimp only); (try k_fold))
  k_with "m:call ref" => (k_here; (with_reducible show wpAny _ _ (call (Value.ref 127) [Value.ref _]) _ _ _); k_dflt (refine' common_use (by (k_asm)) (by (k_asm)) (by (k_asm)) (by (k_asm)) (by (k_asm)) (by (first | exact rfl | assumption)) (by (walk_at "mine:size")) (by (walk_at "mine:size")) (by (assumption)) (by (assumption)) (by (ktr_room)) (by (ktr_units)) ?_); intro v h' tk' hv F' N'; (obtain ⟨t9, hv⟩ := hv); subst hv; (try dsimp only); (try k_fold))
  k_with "m:eval Name" => (k_here; (with_reducible show wpAny _ _ (eval _ (envOfC _ _ _ _ _)) _ _ _); (with_reducible rename At _ _ _ => hAt'); k_dflt (refine' ldX (by (k_asm)) (by (walk_at "mine:at")) ?_ (by (rfl)) (by (rfl))))
  k_with "m:mine:k_all" => ((with_reducible rename Lts _ _ => hL8); exact Lts.ne hL8 (by omega))
  k_with "m:mine:fn" => (refine' fn_at (by (k_asm)) (by (k_asm)) (by (k_is)))
  k_with "m:mine:argument" => (refine callWith_refP (splConsP ?_); refine wpP.of_any ?_; k_steps; (all_goals (try k_data)); refine splNilP ?_; refine ⟨by walk_at "mine:fn", ?_⟩)
  k_with "m:mine:mirror" => (k_dflt (refine' ClaimP.use (cn := Str.ofString "law") (mirror_ok _ _ (by (assumption))) (by (k_asm)) (by (k_asm)) (by (k_asm)) (by (k_asm)) (by (k_asm)) (by (first | exact rfl | assumption)) (by (ktr_room)) (by (ktr_units)) ?_); (all_goals (try k_data)); intro v h' tk' hv F' N'; (obtain ⟨t9, hv⟩ := hv); subst hv; dsimp only)
  k_with "m:mine:mem" => first | k_mem | (with_reducible assumption) | (refine List.mem_cons_of_mem _ ?_; walk_at "mine:mem")
  k_with "m:subscriptTail Name Slice ref ref" => (k_here; (with_reducible show wpAny _ _ (subscriptTail _ (PySem.Expr.Slice none (some _) none _) (PySem.Value.ref _) (PySem.Value.ref _)) _ _ _); k_dflt (refine' slice_upN (s := ⟨_, _, _, _, _⟩) (by (k_asm)) (by (k_asm)) (by (walk_at "mine:mem")) (by (assumption)) (by (constructor)) (by (omega)) ?_); intro D' h' us' hU' F' N' l1'; (try dsimp only); (try k_fold))
  k_with "m:subscriptTail Name Slice ref ref" => (k_here; (with_reducible show wpAny _ _ (subscriptTail _ (PySem.Expr.Slice (some _) none none _) (PySem.Value.ref _) (PySem.Value.ref _)) _ _ _); k_dflt (refine' slice_fromN (s := ⟨_, _, _, _, _⟩) (by (k_asm)) (by (k_asm)) (by (walk_at "mine:mem")) (by (assumption)) (by (constructor)) (by (omega)) ?_); intro D' h' us' hU' F' N' l1'; (try dsimp only); (try k_fold))
  k_with "m:subscriptTail Name Slice ref ref" => (k_here; (with_reducible show wpAny _ _ (subscriptTail _ (PySem.Expr.Slice (some _) (some _) none _) (PySem.Value.ref _) (PySem.Value.ref _)) _ _ _); k_dflt (refine' slice_bothN (s := ⟨_, _, _, _, _⟩) (by (k_asm)) (by (k_asm)) (by (walk_at "mine:mem")) (by (assumption)) (by (constructor)) (by (constructor)) (by (omega)) (by (omega)) (by (omega)) ?_); intro D' h' us' hU' F' N' l1'; (try dsimp only); (try k_fold))
  k_with "m:call builtin:bytes.join" => (k_here; (show wpAny _ _ (call (PySem.Value.builtin "bytes.join") [PySem.Value.bytes _ _, PySem.Value.ref _]) _ _ _); k_dflt (refine' join_N (by (k_asm)) (by (walk_at "mine:mem")) (by (with_reducible assumption)) ?_); intro t' _; (try dsimp only))
  k_with "m:eval Name" => (k_here; (with_reducible show wpAny _ _ (eval (PySem.Expr.Name (Str.ofString "size") _) (envOfC _ _ _ _ _)) _ _ _); k_dflt (refine' nameX_C (x := Str.ofString "size") (by (k_asm)) (by (rfl)) (by (k_mem)) (by (k_asm)) ?_ (by (rfl)) (by (rfl)); k_whole))
  k_with "m:eval Name" => (k_here; (with_reducible show wpAny _ _ (eval (PySem.Expr.Name (Str.ofString "names") _) (envOfC _ _ _ _ _)) _ _ _); k_dflt (refine' nameX_C (x := Str.ofString "names") (by (k_asm)) (by (rfl)) (by (k_mem)) (by (k_asm)) ?_ (by (rfl)) (by (rfl)); k_whole))
  k_with "m:eval Name" => (k_here; (with_reducible show wpAny _ _ (eval (PySem.Expr.Name (Str.ofString "names") _) (compEnvC _ _ _ _)) _ _ _); k_dflt (refine' compC_free (x := Str.ofString "names") (by (k_asm)) (by (rfl)) (by (k_mem)) (by (k_asm)) ?_ (by (rfl)) (by (rfl)) (by (decide)); k_whole))
  k_with "m:eval Name" => (k_here; (with_reducible show wpAny _ _ (eval (PySem.Expr.Name (Str.ofString "size") _) (compEnvC _ _ _ _)) _ _ _); k_dflt (refine' compC_free (x := Str.ofString "size") (by (k_asm)) (by (rfl)) (by (k_mem)) (by (k_asm)) ?_ (by (rfl)) (by (rfl)) (by (decide)); k_whole))
  k_with "m:eval Name" => (k_here; (with_reducible show wpAny _ _ (eval (PySem.Expr.Name (Str.ofString "whole") _) (compEnvC _ _ _ _)) _ _ _); k_dflt (refine' compC_free (x := Str.ofString "whole") (by (k_asm)) (by (rfl)) (by (k_mem)) (by (k_asm)) ?_ (by (rfl)) (by (rfl)) (by (decide)); k_whole))
  k_with "m:eval Name" => (k_here; (with_reducible show wpAny _ _ (eval (PySem.Expr.Name (Str.ofString "whole") _) (envOfC _ _ _ _ _)) _ _ _); k_dflt (refine' nameX_C (x := Str.ofString "whole") (by (k_asm)) (by (rfl)) (by (k_mem)) (by (k_asm)) ?_ (by (rfl)) (by (rfl)); k_whole))
  k_with "m:mine:k_ne" => (refine neN ?_; (try dsimp only); first | assumption | (refine Ne.symm ?_; assumption))
  k_with "m:mine:k_all" => with_reducible assumption
  k_with "m:eval ListComp" => refine Stop.go ?_
  k_with "m:exec For Name Call cons nil" => refine Stop.go ?_
  k_with "m:compareOp Eq ref ref" => refine Stop.go ?_
  trivial
section
theorem obj_at {o : Obj} {d : Data} (_ : o.data = d) : ∃ o', o' = o := ⟨o, rfl⟩
/-- no list or cell that the loops change -/
noncomputable def Aw (L lo : Addr) (t : Addr) : Prop := @Ne Nat t lo ∧ @Ne Nat t (L + 1 + 1 + 1 + 1 + 1) ∧ @Ne Nat t (L + 1 + 1 + 1 + 1 + 1 + 1)
theorem fLoop_succ (s : Nat) (bs : List Bool) (acc : List T3) (k : Nat) : fLoop s bs acc (k + 1) = fStep s bs (fLoop s bs acc k) (k * s) := by
  unfold fLoop
  rw [List.range_succ, List.foldl_append]
  rfl
theorem fLoop_len (s : Nat) (bs : List Bool) (acc : List T3) : ∀ k, (fLoop s bs acc k).length ≤ acc.length + k
  | 0 => Nat.le_refl _
  | k + 1 => by
    have := fLoop_len s bs acc k
    rw [fLoop_succ]
    unfold fStep
    split
    · rw [List.length_append, List.length_singleton]; omega
    · omega
theorem found_len (ns : List (Array UInt8)) : ∀ k, (foundN ns k).length ≤ 7 * k
  | 0 => by simp [foundN]
  | k + 1 => by
    have := found_len ns k
    have h2 := fLoop_len (k + 1) (bits ns (k + 1)) (foundN ns k) (placesN (k + 1))
    have h3 : placesN (k + 1) ≤ 7 := by unfold placesN; exact Nat.div_le_self _ _
    rw [foundN]
    omega
/-- between the turns of the loop over the sizes -/
noncomputable def OutJ (L lo lf lr ln : Addr) (oF oR oN o4 : Obj) (ns : List (Array UInt8)) (i : Nat) (m : Str → Option PySem.Value) (nw : List (Addr × Obj)) : Prop :=
  ∃ (lu : Addr) (vu vf : List PySem.Value) (nu nf : Nat) (o5 o6 : Obj) (v5 v6 : Option PySem.Value) (tl : List (Addr × Obj)),
    nw = (lo, listOf vf.toArray nf) :: (lu, listOf vu.toArray nu) :: (lf, oF) :: (lr, oR) :: (ln, oN) :: (L + 1 + 1 + 1 + 1 + 1 + 1, o6) :: (L + 1 + 1 + 1 + 1 + 1, o5) :: (L + 1 + 1 + 1 + 1, o4) :: tl ∧
    o5.data = .cell v5 ∧ o6.data = .cell v6 ∧ At m (Str.ofString "rests") (.ref lr) ∧ At m (Str.ofString "fronts") (.ref lf) ∧ At m (Str.ofString "found") (.ref lo) ∧ At m (Str.ofString "due") (.ref lu) ∧
    DatAll tl vf ((foundN ns i).map d3) ∧ DatAll tl vu ((dueN ns i).map d3) ∧ (∀ q ∈ tl, Aw L lo q.1) ∧ Aw L lo lu
/-- between the turns of the loop over the places -/
noncomputable def InJ (L lo lu lf lr ln I1 : Addr) (oF oR oN o4 o5 o6 oI1 ou : Obj) (sz : Nat) (bs : List Bool) (fl : List T3) (tl : List (Addr × Obj)) (j : Nat) (m : Str → Option PySem.Value) (nw : List (Addr × Obj)) : Prop :=
  ∃ (vf : List PySem.Value) (nf : Nat) (tl' : List (Addr × Obj)),
    nw = (I1, oI1) :: (lo, listOf vf.toArray nf) :: (lu, ou) :: (lf, oF) :: (lr, oR) :: (ln, oN) :: (L + 1 + 1 + 1 + 1 + 1 + 1, o6) :: (L + 1 + 1 + 1 + 1 + 1, o5) :: (L + 1 + 1 + 1 + 1, o4) :: tl' ∧
    At m (Str.ofString "rests") (.ref lr) ∧ At m (Str.ofString "fronts") (.ref lf) ∧ At m (Str.ofString "found") (.ref lo) ∧ At m (Str.ofString "due") (.ref lu) ∧
    DatAll tl' vf ((fLoop sz bs fl j).map d3) ∧ (∀ q ∈ tl, q ∈ tl') ∧ (∀ q ∈ tl', Aw L lo q.1 ∧ @Ne Nat q.1 I1)
theorem bound1 {a b p i j : Nat} (h1 : a ≤ b + j) (h2 : b ≤ 7 * i) (h3 : j < p) (h4 : p ≤ 7) (h5 : i < 4) : a ≤ 1000 := by omega
theorem bound2 {b i : Nat} (h2 : b ≤ 7 * i) (h5 : i < 4) : b ≤ 10000 := by omega
theorem bound3 {i : Nat} (h : i < 4) : 1 ≤ i + 1 ∧ i + 1 ≤ 4 := by omega
set_option maxRecDepth 100000 in
set_option maxHeartbeats 4000000 in
theorem law_loops (w : World) (mean : ExcName → Option PySem.Value) (mg mb : Str → Option PySem.Value) (h₀ : Heap) (L fa lr lf ln lo lu : Addr) (cd : PySem.Value) (yr yf yn : List PySem.Value) (ns : List (Array UInt8)) (o4 o5 o6 : Obj) (v5 v6 : Option PySem.Value) (m : Str → Option PySem.Value) (s : Shared) (Q : Flow → Shared → Prop)
    (B : Below callerA h₀ [] h₀) (X : (Mine.lawK w.params).In h₀) (T : Top Mine.hd.view_1_2 (looseW Mine.hd.view_1_2 []) mean mg mb h₀)
    (hN : NamesAre yn ns) (hl : ns.length = 8) (hF : RowsAre yf (frontF ns)) (hR : RowsAre yr fun k => ns.drop k)
    (d4 : o4.data = .cell (some (.ref ln))) (d5 : o5.data = .cell v5) (d6 : o6.data = .cell v6)
    (hr : At m (Str.ofString "rests") (.ref lr)) (hf : At m (Str.ofString "fronts") (.ref lf)) (ho : At m (Str.ofString "found") (.ref lo)) (hu : At m (Str.ofString "due") (.ref lu))
    (c1 : Aw L lo lf) (c2 : Aw L lo lr) (c3 : Aw L lo ln) (c4 : Aw L lo lu) (c5 : @Ne Nat (L + 1 + 1 + 1 + 1) lo) (c6 : @Ne Nat (L + 1 + 1 + 1 + 1 + 1) lo) (c7 : @Ne Nat (L + 1 + 1 + 1 + 1 + 1 + 1) lo)
    (F : Fr h₀ L s.heap m) (N : News h₀ L s.heap [(lo, lstN []), (lu, lstN []), (lf, lstN yf), (lr, lstN yr), (ln, lstN yn), (L + 1 + 1 + 1 + 1 + 1 + 1, o6), (L + 1 + 1 + 1 + 1 + 1, o5), (L + 1 + 1 + 1 + 1, o4)])
    (k : ∀ (m' : Str → Option PySem.Value) (h : Heap) (tk : Nat), Fr h₀ L h m' → Q (.ret (.bool true)) { s with heap := h, toks := tk }) :
    wpP Clean (model PySem.Challenge.rw_pd0128_01.row.prog w) (callerA.deeper (envOfC (Str.ofString "law") lawScope L fa cd)) (execs (lawBody.drop 11) (envOfC (Str.ofString "law") lawScope L fa cd)) Q (fun _ _ => False) s := by
  obtain ⟨c11, c12, c13⟩ := c1
  obtain ⟨c21, c22, c23⟩ := c2
  obtain ⟨c31, c32, c33⟩ := c3
  revert X
  k_fill
  intro X
  unfold lawBody lawScope lawRec
  dsimp only [List.drop]
  have FN := And.intro F N
  refine execsP ?_
  refine For_rng (a := 1) (b := 5) (c := 1) (n := 4) clean_kept rfl (by decide) (by decide) F N ?hx (OutJ L lo lf lr ln (lstN yf) (lstN yr) (lstN yn) o4 ns) ?h0 ?turn ?fin
  case hx =>
    k_steps
    exact RngAt.intro (by assumption) FN.1 FN.2 (by assumption)
  case h0 =>
    exact ⟨lu, [], [], 0, 0, o5, o6, v5, v6, [], rfl, d5, d6, hr, hf, ho, hu, .nil, .nil, (by intro q hq; cases hq), c4⟩
  case turn =>
    rintro i t m₁ nw₁ h₁ tk₁ I1 oI1 hi hJ off F₁ N₁
    obtain ⟨lu, vu, vf, nu, nf, o5, o6, v5, v6, tl, rfl, e5, e6, g1, g2, g3, g4, g5, g6, g7, g8⟩ := hJ
    have hsz : 1 ≤ i + 1 ∧ i + 1 ≤ 4 := bound3 hi
    have e : (1 + (i : Int) * 1) = ((i + 1 : Nat) : Int) := by rw [Int.mul_one, Int.add_comm]; rfl
    rw [e]
    clear e
    obtain ⟨g81, g82, g83⟩ := g8
    have bIo : @Ne Nat I1 lo := Ne.symm (off (lo, listOf vf.toArray nf) (by k_mem))
    have bI5 : @Ne Nat I1 (L + 1 + 1 + 1 + 1 + 1) := Ne.symm (off (L + 1 + 1 + 1 + 1 + 1, o5) (by k_mem))
    have bI6 : @Ne Nat I1 (L + 1 + 1 + 1 + 1 + 1 + 1) := Ne.symm (off (L + 1 + 1 + 1 + 1 + 1 + 1, o6) (by k_mem))
    have bIu : @Ne Nat lu I1 := off (lu, listOf vu.toArray nu) (by k_mem)
    have t5 : ∀ q ∈ tl, q.1 ≠ L + 1 + 1 + 1 + 1 + 1 := fun q hq => (g7 q hq).2.1
    have tI : ∀ q ∈ tl, q.1 ≠ I1 := fun q hq => off q (by simp only [List.mem_cons, hq, or_true])
    clear FN F N
    refine wpAny_assign_Name ?_
    k_steps
    all_goals (try k_data)
    (with_reducible rename Fr _ _ _ _ => F₂)
    (with_reducible rename News _ _ _ _ => N₂)
    (with_reducible rename _ = Data.cell (some (PySem.Value.int _ _)) => d5n)
    obtain ⟨o5n, e5n⟩ := obj_at d5n
    subst e5n
    have FN := And.intro F₂ N₂
    obtain ⟨r1, r2⟩ := range_ok hsz
    refine execsP ?_
    refine For_rng (a := 0) (b := 8 - ((i + 1 : Nat) : Int)) (c := ((i + 1 : Nat) : Int)) (n := placesN (i + 1)) clean_kept rfl r1 r2 F₂ N₂ ?hx2 (InJ L lo lu lf lr ln I1 (lstN yf) (lstN yr) (lstN yn) o4 o5n o6 oI1 (listOf vu.toArray nu) (i + 1) (bits ns (i + 1)) (foundN ns i) tl) ?h02 ?turn2 ?fin2
    case hx2 =>
      k_steps
      exact RngAt.intro (by assumption) FN.1 FN.2 (by assumption)
    case h02 => exact ⟨vf, nf, tl, rfl, by assumption, by assumption, by assumption, by assumption, by assumption, fun q hq => hq, fun q hq => ⟨g7 q hq, tI q hq⟩⟩
    case turn2 =>
      rintro j t₂ m₃ nw₃ h₃ tk₃ I2 oI2 hj hJ off₃ F₃ N₃
      obtain ⟨vf, nf, tl', rfl, k1, k2, k3, k4, k5, k6, k7⟩ := hJ
      have hp := place_ok hsz hj
      have e : (0 + (j : Int) * ((i + 1 : Nat) : Int)) = ((j * (i + 1) : Nat) : Int) := by rw [Int.zero_add, Int.natCast_mul]
      rw [e]
      clear e
      have bJo : @Ne Nat I2 lo := Ne.symm (off₃ (lo, listOf vf.toArray nf) (by k_mem))
      have tJ : ∀ q ∈ tl', q.1 ≠ I2 := fun q hq => off₃ q (by simp only [List.mem_cons, hq, or_true])
      clear FN F₂ N₂
      refine wpAny_assign_Name ?_
      k_steps
      all_goals (try k_data)
      (with_reducible rename Fr _ _ _ _ => F₄)
      (with_reducible rename News _ _ _ _ => N₄)
      have hfl := fLoop_len (i + 1) (bits ns (i + 1)) (foundN ns i) j
      have hfn := found_len ns i
      have hjn : placesN (i + 1) ≤ 7 := by unfold placesN; exact Nat.div_le_self _ _
      refine law_turn w mean mg mb h₀ L fa lr lf ln lo lu I1 I2 cd yr yf yn vf ns (fLoop (i + 1) (bits ns (i + 1)) (foundN ns i) j) nf (j * (i + 1)) (i + 1) t₂ _ oI1 oI2 (listOf vu.toArray nu) o4 o5n o6 tl' (fun t => (Aw L lo t ∧ @Ne Nat t I1) ∧ @Ne Nat t I2) _ _ _ B X T hN hl hF hR hsz hp d4 d5n ?q1 ?q2 ?q3 ?q4 ?q5 k5 (bound1 hfl hfn hj hjn hi) (fun q hq => (k7 q hq).1.1) ?a2 bIo bJo (fun q hq => ⟨k7 q hq, tJ q hq⟩) ?a6 F₄ N₄ ?kk
      case a2 =>
        intro q hq
        simp only [List.mem_cons, List.not_mem_nil, or_false] at hq
        rcases hq with rfl | rfl | rfl | rfl | rfl | rfl | rfl
        · exact g81
        · exact c11
        · exact c21
        · exact c31
        · exact c7
        · exact c6
        · exact c5
      case a6 =>
        intro t ht
        exact ⟨⟨⟨Ne.symm (Nat.ne_of_lt (ht (lo, listOf vf.toArray nf) (by k_mem))), Ne.symm (Nat.ne_of_lt (ht (L + 1 + 1 + 1 + 1 + 1, o5n) (by k_mem))), Ne.symm (Nat.ne_of_lt (ht (L + 1 + 1 + 1 + 1 + 1 + 1, o6) (by k_mem)))⟩,
          Ne.symm (Nat.ne_of_lt (ht (I1, oI1) (by k_mem)))⟩, Ne.symm (Nat.ne_of_lt (ht (I2, oI2) (by k_mem)))⟩
      case kk =>
        intro vf' nf' tl'' m' h tk x1 x2 x3 x4 x5 x6 x7 F₅ N₅
        refine TurnEnd.intro _ F₅ N₅ (fun p hp => hp) ?_ ⟨vf', nf', tl'', rfl, x1, x2, x3, x4, by rw [fLoop_succ]; exact x5, fun q hq => x6 q (k6 q hq), fun q hq => (x7 q hq).2.1⟩
        intro p hp
        simp only [List.mem_cons] at hp
        rcases hp with rfl | rfl | rfl | rfl | rfl | rfl | rfl | rfl | rfl | hp
        · exact off₃ (I1, oI1) (by k_mem)
        · exact off₃ (lo, listOf vf.toArray nf) (by k_mem)
        · exact off₃ _ (by k_mem)
        · exact off₃ _ (by k_mem)
        · exact off₃ _ (by k_mem)
        · exact off₃ _ (by k_mem)
        · exact off₃ _ (by k_mem)
        · exact off₃ _ (by k_mem)
        · exact off₃ _ (by k_mem)
        · exact (x7 p hp).2.2
      all_goals walk_at "mine:at"
    case fin2 =>
      rintro h₃ tk₃ m₃ nw₃ F₃ N₃ hJ
      obtain ⟨vf', nf', tl', rfl, k1, k2, k3, k4, k5, k6, k7⟩ := hJ
      have hdl := found_len ns i
      rw [found_due hl i (Nat.le_of_lt hi)] at hdl
      clear FN F₂ N₂
      refine law_rest1 w mean mg mb h₀ L fa lr lf ln lo lu I1 cd yn vu ns (dueN ns i) nu (i + 1) _ oI1 (listOf vf'.toArray nf') (lstN yf) (lstN yr) o4 o5n o6 v6 tl' (fun t => Aw L lo t ∧ @Ne Nat t I1) m₃ _ _ B X T hN hl hsz d4 d5n e6 k4 ?a6 k7 (fun t ht => ht.1.2.2) bI6 (Ne.symm c7) g83 c13 c23 c33 F₃ N₃ ?kk
      case a6 =>
        intro t ht
        exact ⟨⟨Ne.symm (Nat.ne_of_lt (ht (lo, listOf vf'.toArray nf') (by k_mem))), Ne.symm (Nat.ne_of_lt (ht (L + 1 + 1 + 1 + 1 + 1, o5n) (by k_mem))), Ne.symm (Nat.ne_of_lt (ht (L + 1 + 1 + 1 + 1 + 1 + 1, o6) (by k_mem)))⟩,
          Ne.symm (Nat.ne_of_lt (ht (I1, oI1) (by k_mem)))⟩
      case kk =>
        intro D yw tw o6' h tk d6' hW hA F₅ N₅
        refine law_rest2 w mean mg mb h₀ L fa lr lf ln lo lu I1 D cd yw vu ns (dueN ns i) nu (i + 1) _ oI1 (listOf vf'.toArray nf') (lstN yf) (lstN yr) (lstN yn) o4 o5n o6' tw tl' (fun t => Aw L lo t ∧ @Ne Nat t I1) m₃ _ _ B X T hW (g6.mono k6) (bound2 hdl hi) d5n d6' k1 k2 k3 k4 ?b6 k7 hA F₅ N₅ ?kk2
        case b6 =>
          intro t ht
          exact ⟨⟨Ne.symm (Nat.ne_of_lt (ht (lo, listOf vf'.toArray nf') (by k_mem))), Ne.symm (Nat.ne_of_lt (ht (L + 1 + 1 + 1 + 1 + 1, o5n) (by k_mem))), Ne.symm (Nat.ne_of_lt (ht (L + 1 + 1 + 1 + 1 + 1 + 1, o6') (by k_mem)))⟩,
            Ne.symm (Nat.ne_of_lt (ht (I1, oI1) (by k_mem)))⟩
        case kk2 =>
          intro lu' vu' nu' tl'' m' h tk hAw x1 x2 x3 x4 x5 x6 x7 F₆ N₆
          refine TurnEnd.intro _ F₆ N₆ (fun p hp => hp) ?_ ⟨lu', vu', vf', nu', nf', o5n, o6', _, _, tl'', rfl, d5n, d6', x1, x2, x3, x4, k5.mono x6, x5, fun q hq => (x7 q hq).1, hAw.1⟩
          intro p hp
          simp only [List.mem_cons] at hp
          rcases hp with rfl | rfl | rfl | rfl | rfl | rfl | rfl | rfl | hp
          · exact off (lo, listOf vf.toArray nf) (by k_mem)
          · exact hAw.2
          · exact off _ (by k_mem)
          · exact off _ (by k_mem)
          · exact off _ (by k_mem)
          · exact off (L + 1 + 1 + 1 + 1 + 1 + 1, o6) (by k_mem)
          · exact off (L + 1 + 1 + 1 + 1 + 1, o5) (by k_mem)
          · exact off _ (by k_mem)
          · exact (x7 p hp).2
  case fin =>
    rintro h₃ tk₃ m₃ nw₃ F₃ N₃ hJ
    obtain ⟨lu, vu, vf, nu, nf, o5, o6, v5, v6, tl, rfl, e5, e6, g1, g2, g3, g4, g5, g6, g7, g8⟩ := hJ
    clear FN F N
    refine execsP ?_
    refine wpP.of_any ?_
    k_steps
    all_goals (try k_data)
    refine eq_D N₃ List.mem_cons_self g5 ?s1 (List.mem_cons_of_mem _ List.mem_cons_self) g6 ?s2 (d3_ok _) (d3_ok _) (by ke_room) ?_
    case s1 =>
      intro q hq
      simp only [List.mem_cons, hq, or_true]
    case s2 =>
      intro q hq
      simp only [List.mem_cons, hq, or_true]
    intro bb hbb
    have hb : bb = true := hbb.mpr (by rw [found_due hl 4 (Nat.le_refl 4)])
    subst hb
    k_steps
    all_goals (try k_data)
    exact k m₃ _ _ F₃
end
theorem rules_L10 : True := by
  k_with_none
  k_with "m:call type:type" => (k_here; (with_reducible show wpAny _ _ (call (Value.type "type") [Value.bytes _ _]) _ _ _); (refine type_bytes ?_))
  k_with "m:call builtin:issubclass" => (k_here; (show wpAny _ _ (call (Value.builtin "issubclass") [Value.type "bytes", Value.ref _]) _ _ _); k_dflt (refine' issub_N (by (k_asm)) (by (k_mem)) ?_))
  k_with "m:mine:news" => first | assumption | (refine cb_drop (by assumption) ?_; intro p hp; repeat (first | exact hp | refine List.mem_cons_of_mem _ ?_))
  k_with "m:mine:size" => first | omega | (simp only [Array.size_append, List.size_toArray, List.length_cons, List.length_nil] at *; omega)
  k_with "m:getMethod bytes" => (k_here; (with_reducible first | refine meth FB.slot_bytes_startswith FB.type_bytes_startswith ?_ | refine meth FB.slot_bytes_endswith FB.type_bytes_endswith ?_ | refine meth slot_rfind type_rfind ?_ | refine meth slot_rstrip type_rstrip ?_ | refine meth slot_split type_split ?_ | refine meth slot_join type_join ?_))
  k_with "m:call builtin:bytes.startswith" => (k_here; (show wpAny _ _ (call (Value.builtin "bytes.startswith") [Value.bytes _ _, Value.bytes _ _]) _ _ _); (refine call_starts ?_))
  k_with "m:call builtin:bytes.endswith" => (k_here; (show wpAny _ _ (call (Value.builtin "bytes.endswith") [Value.bytes _ _, Value.bytes _ _]) _ _ _); (refine call_ends ?_))
  k_with "m:call builtin:bytes.rfind" => (k_here; (show wpAny _ _ (call (Value.builtin "bytes.rfind") [Value.bytes _ _, Value.bytes _ _]) _ _ _); (refine call_rfind ?_))
  k_with "m:call builtin:bytes.rstrip" => (k_here; (show wpAny _ _ (call (Value.builtin "bytes.rstrip") [Value.bytes _ _, Value.bytes _ _]) _ _ _); (refine call_rstrip (by walk_at "mine:size") ?_); intro _ _)
  k_with "m:truthy bytes" => (k_here; (with_reducible show wpAny _ _ (truthy (Value.bytes _ _)) _ _ _); (refine truthy_bytes (by walk_at "mine:size") ?_))
  k_with "m:call builtin:len" => (k_here; (show wpAny _ _ (call (Value.builtin "len") [Value.bytes _ _]) _ _ _); (refine len_bytes (by walk_at "mine:size") ?_))
  k_with "m:subscriptTail" => (k_here; (with_reducible show wpAny _ _ (subscriptTail _ (Expr.Slice _ _ none _) (Value.bytes _ _) (Value.ref _)) _ _ _); (with_reducible rename Fr _ _ _ _ => F'); (with_reducible rename News _ _ _ _ => N'); (refine slice_B (s := ⟨_, _, _, _, _⟩) F' N' (by constructor) (by constructor) (by walk_at "mine:size") ?_); intro _ _ _ F' N' hsz')
  k_with "m:binaryOp Mult bytes int" => (k_here; (with_reducible show wpAny _ _ (binaryOp Operator.Mult (Value.bytes _ _) (Value.int _ _)) _ _ _); (refine mul_one (by omega) (by walk_at "mine:size") ?_); intro _ _)
  k_with "m:binaryOp Add bytes bytes" => (k_here; (with_reducible show wpAny _ _ (binaryOp Operator.Add (Value.bytes _ _) (Value.bytes _ _)) _ _ _); (refine KBy.add_bytes (by walk_at "mine:size") ?_); intro _ _)
  k_with "m:compareOp NotEq bytes bytes" => (k_here; (refine ne_bytes ?_))
  k_with "m:compareOp Eq bytes bytes" => (k_here; (refine eq_bytes ?_))
  k_with "m:exec Try" => (k_here; (refine Try_calm ?_))
  k_with "m:mine:passes_own" => exact fun _ _ h => (show False from h).elim
  k_with "m:inplaceOp Add" => (k_here; (with_reducible show wpAny _ _ (inplaceOp Operator.Add (Value.bytes _ _) (Value.bytes _ _)) _ _ _); (refine iadd_bytes (by walk_at "mine:size") ?_); intro _ _)
  k_with "m:call builtin:bytes.split" => (k_here; (show wpAny _ _ (call (Value.builtin "bytes.split") [Value.bytes _ _, Value.bytes _ _]) _ _ _); k_dflt (refine' call_split1 (by (k_asm)) (by (k_asm)) (by (walk_at "mine:size")) ?_); intro l' h' vs' k' hv' hn' F' N' l1'; (try dsimp only))
  k_with "m:call builtin:len" => (k_here; (show wpAny _ _ (call (Value.builtin "len") [Value.ref _]) _ _ _); k_dflt (refine' len_L (by (k_asm)) (by (k_mem)) (by (omega)) ?_); intro _ _)
  k_with "m:mine:at" => with_reducible (first | exact At.here | assumption | exact At.skip (by decide) (by walk_at "mine:at"))
  k_with "m:eval Name" => (k_here; (with_reducible fail_if_success show wpAny _ _ (eval _ (compEnvC _ _ _ _)) _ _ _); (with_reducible fail_if_success show wpAny _ _ (eval _ (compEnv _ _ _)) _ _ _); (with_reducible fail_if_success show wpAny _ _ (eval _ (envOfC _ _ _ _ _)) _ _ _); (with_reducible rename At _ _ _ => hAt'); k_dflt (refine' ldA (by (k_asm)) (by (walk_at "mine:at")) ?_))
  k_with "m:loadName" => (k_here; (with_reducible fail_if_success show wpAny _ _ (loadName (envOfC _ _ _ _ _) _) _ _ _); (with_reducible rename At _ _ _ => hAt'); k_dflt (refine' ldnA (by (k_asm)) (by (walk_at "mine:at")) ?_))
  k_with "m:subscriptTail" => (k_here; (with_reducible show wpAny _ _ (subscriptTail _ _ (Value.ref _) (Value.int (-1) _)) _ _ _); k_dflt (refine' item_last (by (k_asm)) (by (k_mem)) ?_))
  k_with "m:mine:enterC" => (refine' code_defC (by (k_asm)) (by (k_asm)) (by (k_asm)) (by (k_asm)) (by (k_asm)) (by (exact rfl)) (by (exact rfl)) (by (assumption)) (by (k_is)) (by (k_is)) (by (ktr_room)) (by (exact BindsTo.of_eq rfl)) (by (exact rfl)) (by (decide +kernel)) ?_ (by (exact rfl)) (by (exact rfl)) (by (exact rfl)); k_whole; intro g' L' h' tk' cells' FG' F' N' Y' B' X' T' l1; (have hL9 := Lts.mk' l1; (repeat (replace hL9 := Lts.drop hL9))); (try k_lt l1); k_cells Y'; (try simp only [List.cons_append, List.nil_append] at N'); (try dsimp only); (try k_lift B'); (try k_fold))
  trivial
theorem kind_name {b : Array UInt8} (h : Kind b) : Name b := by
  rcases h with rfl | rfl | rfl | rfl
  · exact ⟨⟨by decide, by decide⟩, by decide⟩
  · exact ⟨⟨by decide, by decide⟩, by decide⟩
  · exact ⟨⟨by decide, by decide⟩, by decide⟩
  · exact ⟨⟨by decide, by decide⟩, by decide⟩
theorem pathOf_J {ns : List (Array UInt8)} (h : ∀ b ∈ ns, Good b) : pathOf ns = J ns := by
  have := path_J ns [] (by intro x hx; cases hx) h
  rwa [J_nil, List.nil_append] at this
theorem climb_rows {ns : List (Array UInt8)} (h : ∀ b ∈ ns, Good b) (hl : ns.length = 8) : climbL (J ns) 8 = (List.range 9).map fun k => J (ns.take (8 - k)) := by
  rw [climb_J h, hl]
theorem rest_rows {ns : List (Array UInt8)} (h : ∀ b ∈ ns, Good b) (hl : ns.length = 8) : (climbL (J ns).reverse 8).map Array.reverse = (List.range 9).map fun k => J (ns.drop k) := by
  have hr : ∀ b ∈ ns.reverse.map Array.reverse, Good b := fun b hb => by
    obtain ⟨c, hc, rfl⟩ := List.mem_map.mp hb
    exact (h c (List.mem_reverse.mp hc)).rev
  rw [J_rev, climb_J hr, List.map_map]
  refine List.map_congr_left fun i hi => ?_
  have hi : i < 9 := List.mem_range.mp hi
  show (J _).reverse = _
  rw [J_rev, List.length_map, List.length_reverse, hl, ← List.map_take, ← List.map_reverse, List.map_map, List.take_reverse, List.reverse_reverse, hl]
  have e : (Array.reverse ∘ Array.reverse : Array UInt8 → Array UInt8) = id := funext fun x => by simp
  rw [e, List.map_id]
  congr 2
  omega
set_option maxRecDepth 100000 in
set_option maxHeartbeats 4000000 in
theorem law_all (w : World) (mean : ExcName → Option PySem.Value) (mg mb : Str → Option PySem.Value) (h₀ : Heap) (L fa lx : Addr) (cd : PySem.Value) (xs : List Int) (vs : List PySem.Value) (o1 o2 o3 o4 o5 o6 : Obj) (s : Shared) (Q : Flow → Shared → Prop)
    (B : Below callerA h₀ [] h₀) (X : (Mine.lawK w.params).In h₀) (T : Top Mine.hd.view_1_2 (looseW Mine.hd.view_1_2 []) mean mg mb h₀) (hlx : h₀.IsList lx vs.toArray) (hI : IntsAre vs xs) (hlen : xs.length ≤ 63)
    (d1 : o1.data = .cell (some (.ref lx))) (d2 : o2.data = .cell none) (d3 : o3.data = .cell none) (d4 : o4.data = .cell none) (d5 : o5.data = .cell none) (d6 : o6.data = .cell none)
    (F : Fr h₀ L s.heap (fun _ => none)) (N : News h₀ L s.heap [(L + 1 + 1 + 1 + 1 + 1 + 1, o6), (L + 1 + 1 + 1 + 1 + 1, o5), (L + 1 + 1 + 1 + 1, o4), (L + 1 + 1 + 1, o3), (L + 1 + 1, o2), (L + 1, o1)])
    (k : ∀ (m' : Str → Option PySem.Value) (h : Heap) (tk : Nat), Fr h₀ L h m' → Q (.ret (.bool true)) { s with heap := h, toks := tk }) :
    wpP Clean (model PySem.Challenge.rw_pd0128_01.row.prog w) (callerA.deeper (envOfC (Str.ofString "law") lawScope L fa cd)) (execs lawBody (envOfC (Str.ofString "law") lawScope L fa cd)) Q (fun _ _ => False) s := by
  with_reducible refine law_s1 w mean mg mb h₀ L fa lx cd xs vs o1 o2 o3 o4 o5 o6 s Q B X T hlx hI hlen d1 d2 d3 d4 d5 d6 F N ?_
  intro ln ys ns o4 h tk hBy hl hK d4 n6 n5 n4 F N
  have hNm : NamesAre ys ns := ⟨hBy, fun b hb => kind_name (hK b hb), by omega⟩
  have hg : ∀ b ∈ ns, Good b := fun b hb => (hNm.2.1 b hb).1
  refine law_s2 w mean mg mb h₀ L fa ln cd ys ns o4 o5 o6 _ Q B X T hBy hl hK d4 F N ?_
  intro m t lc ws n h tk hC hP hCl hlt F N
  rw [pathOf_J hg] at hC hP
  have hJz : (J ns).size ≤ 1000 := by
    have := J_size hNm.2.1
    omega
  refine law_s3 w mean mg mb h₀ L fa lc ln cd (J ns) _ _ o4 o5 o6 m t _ Q B X T hJz hP hCl F N ?_
  intro lr yr m' h tk hR hCl' hRs hne F N
  rw [climb_rows hg hl] at hC
  rw [rest_rows hg hl] at hR
  refine law_s4 w mean mg mb h₀ L fa lr lc ln cd yr ws ys ns n o4 o5 o6 m' _ Q B X T hNm hl hC hR d4 hCl' hRs F N ?_
  intro h tk F N
  refine law_s5 w mean mg mb h₀ L fa lr lc ln cd ws ns n (lstN yr) (lstN ys) o4 o5 o6 m' _ Q B X T hNm.2.1 hC hl hCl' hRs F N ?_
  intro lf lo lu yf m'' h tk hF a1 a2 a3 a4 no nu nuo nf F N
  simp only [List.forall_mem_cons, List.not_mem_nil, false_implies, implies_true, and_true] at hne no nu nf
  refine law_loops w mean mg mb h₀ L fa lr lf ln lo lu cd yr yf ys ns o4 o5 o6 none none m'' _ Q B X T hNm hl hF hR d4 d5 d6 a1 a2 a3 a4 ?c1 ?c2 ?c3 ?c4 ?c5 ?c6 ?c7 F (News.less ?less N) ?kk
  case c1 => exact ⟨no.1, Ne.symm nf.2.2.2.1, Ne.symm nf.2.2.1⟩
  case c2 => exact ⟨no.2.1, Ne.symm hne.2.2.2.1, Ne.symm hne.2.2.1⟩
  case c3 => exact ⟨no.2.2.1, Ne.symm n5, Ne.symm n6⟩
  case c4 => exact ⟨nuo, Ne.symm nu.2.2.2.2.1, Ne.symm nu.2.2.2.1⟩
  case c5 => exact no.2.2.2.2.2
  case c6 => exact no.2.2.2.2.1
  case c7 => exact no.2.2.2.1
  case less =>
    intro q hq
    simp only [List.mem_cons, List.not_mem_nil, or_false] at hq ⊢
    rcases hq with h | h | h | h | h | h | h | h <;> simp only [h, true_or, or_true]
  case kk =>
    intro m₃ h tk F
    exact k m₃ h tk F
theorem rules_L11 : True := by
  k_with_none
  k_with "m:call type:type" => (k_here; (with_reducible show wpAny _ _ (call (Value.type "type") [Value.bytes _ _]) _ _ _); (refine type_bytes ?_))
  k_with "m:call builtin:issubclass" => (k_here; (show wpAny _ _ (call (Value.builtin "issubclass") [Value.type "bytes", Value.ref _]) _ _ _); k_dflt (refine' issub_N (by (k_asm)) (by (k_mem)) ?_))
  k_with "m:mine:news" => first | assumption | (refine cb_drop (by assumption) ?_; intro p hp; repeat (first | exact hp | refine List.mem_cons_of_mem _ ?_))
  k_with "m:mine:size" => first | omega | (simp only [Array.size_append, List.size_toArray, List.length_cons, List.length_nil] at *; omega)
  k_with "m:getMethod bytes" => (k_here; (with_reducible first | refine meth FB.slot_bytes_startswith FB.type_bytes_startswith ?_ | refine meth FB.slot_bytes_endswith FB.type_bytes_endswith ?_ | refine meth slot_rfind type_rfind ?_ | refine meth slot_rstrip type_rstrip ?_ | refine meth slot_split type_split ?_ | refine meth slot_join type_join ?_))
  k_with "m:call builtin:bytes.startswith" => (k_here; (show wpAny _ _ (call (Value.builtin "bytes.startswith") [Value.bytes _ _, Value.bytes _ _]) _ _ _); (refine call_starts ?_))
  k_with "m:call builtin:bytes.endswith" => (k_here; (show wpAny _ _ (call (Value.builtin "bytes.endswith") [Value.bytes _ _, Value.bytes _ _]) _ _ _); (refine call_ends ?_))
  k_with "m:call builtin:bytes.rfind" => (k_here; (show wpAny _ _ (call (Value.builtin "bytes.rfind") [Value.bytes _ _, Value.bytes _ _]) _ _ _); (refine call_rfind ?_))
  k_with "m:call builtin:bytes.rstrip" => (k_here; (show wpAny _ _ (call (Value.builtin "bytes.rstrip") [Value.bytes _ _, Value.bytes _ _]) _ _ _); (refine call_rstrip (by walk_at "mine:size") ?_); intro _ _)
  k_with "m:truthy bytes" => (k_here; (with_reducible show wpAny _ _ (truthy (Value.bytes _ _)) _ _ _); (refine truthy_bytes (by walk_at "mine:size") ?_))
  k_with "m:call builtin:len" => (k_here; (show wpAny _ _ (call (Value.builtin "len") [Value.bytes _ _]) _ _ _); (refine len_bytes (by walk_at "mine:size") ?_))
  k_with "m:subscriptTail" => (k_here; (with_reducible show wpAny _ _ (subscriptTail _ (Expr.Slice _ _ none _) (Value.bytes _ _) (Value.ref _)) _ _ _); (with_reducible rename Fr _ _ _ _ => F'); (with_reducible rename News _ _ _ _ => N'); (refine slice_B (s := ⟨_, _, _, _, _⟩) F' N' (by constructor) (by constructor) (by walk_at "mine:size") ?_); intro _ _ _ F' N' hsz')
  k_with "m:binaryOp Mult bytes int" => (k_here; (with_reducible show wpAny _ _ (binaryOp Operator.Mult (Value.bytes _ _) (Value.int _ _)) _ _ _); (refine mul_one (by omega) (by walk_at "mine:size") ?_); intro _ _)
  k_with "m:binaryOp Add bytes bytes" => (k_here; (with_reducible show wpAny _ _ (binaryOp Operator.Add (Value.bytes _ _) (Value.bytes _ _)) _ _ _); (refine KBy.add_bytes (by walk_at "mine:size") ?_); intro _ _)
  k_with "m:compareOp NotEq bytes bytes" => (k_here; (refine ne_bytes ?_))
  k_with "m:compareOp Eq bytes bytes" => (k_here; (refine eq_bytes ?_))
  k_with "m:exec Try" => (k_here; (refine Try_calm ?_))
  k_with "m:mine:passes_own" => exact fun _ _ h => (show False from h).elim
  k_with "m:inplaceOp Add" => (k_here; (with_reducible show wpAny _ _ (inplaceOp Operator.Add (Value.bytes _ _) (Value.bytes _ _)) _ _ _); (refine iadd_bytes (by walk_at "mine:size") ?_); intro _ _)
  k_with "m:call builtin:bytes.split" => (k_here; (show wpAny _ _ (call (Value.builtin "bytes.split") [Value.bytes _ _, Value.bytes _ _]) _ _ _); k_dflt (refine' call_split1 (by (k_asm)) (by (k_asm)) (by (walk_at "mine:size")) ?_); intro l' h' vs' k' hv' hn' F' N' l1'; (try dsimp only))
  k_with "m:call builtin:len" => (k_here; (show wpAny _ _ (call (Value.builtin "len") [Value.ref _]) _ _ _); k_dflt (refine' len_L (by (k_asm)) (by (k_mem)) (by (omega)) ?_); intro _ _)
  k_with "m:mine:at" => with_reducible (first | exact At.here | assumption | exact At.skip (by decide) (by walk_at "mine:at"))
  k_with "m:eval Name" => (k_here; (with_reducible fail_if_success show wpAny _ _ (eval _ (compEnvC _ _ _ _)) _ _ _); (with_reducible fail_if_success show wpAny _ _ (eval _ (compEnv _ _ _)) _ _ _); (with_reducible fail_if_success show wpAny _ _ (eval _ (envOfC _ _ _ _ _)) _ _ _); (with_reducible rename At _ _ _ => hAt'); k_dflt (refine' ldA (by (k_asm)) (by (walk_at "mine:at")) ?_))
  k_with "m:loadName" => (k_here; (with_reducible fail_if_success show wpAny _ _ (loadName (envOfC _ _ _ _ _) _) _ _ _); (with_reducible rename At _ _ _ => hAt'); k_dflt (refine' ldnA (by (k_asm)) (by (walk_at "mine:at")) ?_))
  k_with "m:subscriptTail" => (k_here; (with_reducible show wpAny _ _ (subscriptTail _ _ (Value.ref _) (Value.int (-1) _)) _ _ _); k_dflt (refine' item_last (by (k_asm)) (by (k_mem)) ?_))
  k_with "m:mine:enterC" => (refine' code_defC (by (k_asm)) (by (k_asm)) (by (k_asm)) (by (k_asm)) (by (k_asm)) (by (exact rfl)) (by (exact rfl)) (by (assumption)) (by (k_is)) (by (k_is)) (by (ktr_room)) (by (exact BindsTo.of_eq rfl)) (by (exact rfl)) (by (decide +kernel)) ?_ (by (exact rfl)) (by (exact rfl)) (by (exact rfl)); k_whole; intro g' L' h' tk' cells' FG' F' N' Y' B' X' T' l1; (have hL9 := Lts.mk' l1; (repeat (replace hL9 := Lts.drop hL9))); (try k_lt l1); k_cells Y'; (try simp only [List.cons_append, List.nil_append] at N'); (try dsimp only); (try k_lift B'); (try k_fold))
  trivial
set_option maxRecDepth 100000 in
set_option maxHeartbeats 4000000 in
theorem law_walks : LawWalk := by
  unfold LawWalk lawRec
  dsimp only
  k_fill
  intro w s₀ s₁ mg mb G Y fa o pm cd doc dV kV ho hd hcd hD hmg hg args vals as hpre hlay hrd hwl hlo
  have KX := kIn_of Y
  have X := (Ground.X G).1
  have V := (Ground.X G).2
  refine Ground.open G ?_
  intro T B D TE TW
  try (refine guard_noD D (by decide +kernel) ?_; clear D)
  clear hmg
  wrow_args hpre hlay hrd hwl hlo
  have he := Dflts.none hD rfl
  subst he
  have he := Dflts.noKw hD
  subst he
  refine wpP_call clean_kept ?_
  refine call_cellsP clean_kept (by decide) ho (fd_plain hd) (Top.nolimit T) hcd rfl (kinds_of (by kinds_ok)) (by decide) fun h₁ tk₁ cells F N0 X0 => ?_
  k_cells X0
  clear hd hcd hD
  show wpP Clean _ (callerA.deeper (envOfC _ lawScope _ _ _)) (execs lawBody (envOfC _ lawScope _ _ _)) _ _ _
  with_reducible refine law_all w _ mg mb s₁.heap s₁.heap.objs.size fa _ cd _ _ _ _ _ _ _ _ _ _ (below_caller _) KX T (by assumption) (by assumption) (by omega) ?d1 ?d2 ?d3 ?d4 ?d5 ?d6 ?F N0 ?kk
  case F => exact F
  case d1 => assumption
  case d2 => assumption
  case d3 => assumption
  case d4 => assumption
  case d5 => assumption
  case d6 => assumption
  case kk =>
    intro m' h tk F'
    dsimp only
    refine ⟨.inl ⟨.bool true, .bool true, [], rfl, ?r1, ?r2, ?r3, ?r4⟩, .of_keep F'.keep, rfl, ?r5⟩
    case r1 => intro cls; rfl
    case r2 => constructor
    case r3 => wrow_post
    case r4 => exact fun _ => ⟨List.nodup_nil, by intro a ha; cases ha⟩
    case r5 => exact .of_eq hg
end Mine
end
theorem PySem.Challenge.cw_pd0128_01_holds : PySem.Challenge.rw_pd0128_01.Holds :=
  Mine.holdsP Mine.law_walks
